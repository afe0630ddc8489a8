/- Contracts of the reference's numTidy, intOrder, CompareNumbers (one number each), Number, NumberOf, and of the statement's number. -/
import Derived.Test.YtcehboopgjpfcaaGreatDoorN2
import Derived.Deep.RegionHeld3
namespace Go.Proofs.Tz
open Go.RowKit Mv

/-- A box with an Int. -/
theorem ibox {w w' : World} {b : Nat} {m : Bs} (h : Arr w b 50 [.bool false, .string (str m)]) (hb : Below w.heap.size w w') :
    Arr w' b 50 [.bool false, .string (str m)] ∧ w'.cell? ⟨b, 0, none⟩ = some (.bool false) ∧ w'.cell? ⟨b, 1, none⟩ = some (.string (str m)) ∧ w'.frozen? ⟨b, 0, none⟩ = false ∧ w'.frozen? ⟨b, 1, none⟩ = false :=
  have h2 := h.below hb
  ⟨h2, h2.cell rfl, h2.cell rfl, h2.free 0, h2.free 1⟩

set_option maxHeartbeats 4000000 in
theorem tidy56 (m : Bs) (hm : Tidy m) (hl : m.length ≤ 1000000) (w : World) :
    Calls Tryz.prog 56 #[.agg #[.bool false, .string (str m)]] w fun e w' => e = .returned (nint false m) ∧ Below w.heap.size w w' := by
  have hss := str_size
  obtain ⟨wz, hwz⟩ : ∃ x, x = (w.alloc (Obj.cells #[Value.bool false, Value.string (str m)] 50)).alloc (Obj.cells #[Value.bool false, Value.string ⟨#[]⟩] 50) := ⟨_, rfl⟩
  have hB : Below w.heap.size w wz := by rw [hwz]; exact ((Below.refl _ _).alloc (Nat.le_refl _) _).alloc (by rw [size_alloc]; omega) _
  have hA1 : Arr wz w.heap.size 50 [.bool false, .string (str m)] := by rw [hwz]; exact (Arr.new w 50 [.bool false, .string (str m)]).alloc _
  have hA2 : Arr wz (w.heap.size + 1) 50 [.bool false, .string ⟨#[]⟩] := by
    rw [hwz]
    have := Arr.new (w.alloc (Obj.cells #[Value.bool false, Value.string (str m)] 50)) 50 [.bool false, .string ⟨#[]⟩]
    rw [size_alloc] at this; exact this
  have k0 : wz.cell? ⟨w.heap.size, 0, none⟩ = some (.bool false) := hA1.cell rfl
  have k1 : wz.cell? ⟨w.heap.size, 1, none⟩ = some (.string (str m)) := hA1.cell rfl
  have f0 := hA1.free 0
  have HB := Lib.hid hB
  have HA1 := Lib.hid hA1
  have HA2 := Lib.hid hA2
  have HT := Lib.hid hm
  clear hB hA1 hA2 hm
  go_enter Tryz.func56, Tryz.ntmps56
  go_wp2_with fail
  rw [← hwz]
  clear hwz
  go_loopw [] (fun wr => wr = wz) (fun _ => 0)
  case atStart => exact rfl
  case round =>
    subst hrel
    obtain ⟨wy, hwy⟩ : ∃ x, x = wr.setCell ⟨w.heap.size, 0, none⟩ (Value.bool false) := ⟨_, rfl⟩
    have hA' : Arr wy w.heap.size 50 [.bool false, .string (str m)] := by rw [hwy]; exact HA1.out.set 0 (.bool false)
    have hA3 : Arr wy (w.heap.size + 1) 50 [.bool false, .string ⟨#[]⟩] := by rw [hwy]; exact HA2.out.setOther (a := ⟨w.heap.size, 0, none⟩) (Nat.ne_of_gt (Nat.lt_succ_self _)) (.bool false)
    have hBy : Below w.heap.size w wy := by rw [hwy]; exact HB.out.setCell (Nat.le_refl _) _
    have d0 : wy.cell? ⟨w.heap.size, 0, none⟩ = some (.bool false) := hA'.cell rfl
    have d1 : wy.cell? ⟨w.heap.size, 1, none⟩ = some (.string (str m)) := hA'.cell rfl
    have e0 : wy.cell? ⟨w.heap.size + 1, 0, none⟩ = some (.bool false) := hA3.cell rfl
    have e1 : wy.cell? ⟨w.heap.size + 1, 1, none⟩ = some (.string ⟨#[]⟩) := hA3.cell rfl
    have g0 := hA3.free 0
    have g1 := hA3.free 1
    have HA4 := Lib.hid ((hA3.set 0 (.bool false)).set 1 (.string (str m)))
    have HBY := Lib.hid hBy
    have hwy2 := hwy.symm
    clear hwy hA' hA3 hBy
    by_cases hm0 : m = []
    · subst hm0
      go_wp2_with fail
      have y0 := HA4.out.cell (j := 0) rfl
      have y1 := HA4.out.cell (j := 1) rfl
      refine bodyPost_ret (v := nint false []) (by simp [results, Tryz.results56, go_sem, y0, y1, nint]) rfl ⟨rfl, ?_⟩
      exact (HBY.out.setCell (Nat.le_succ _) _).setCell (Nat.le_succ _) _
    · obtain ⟨c, r, rfl⟩ := List.exists_cons_of_ne_nil hm0
      have hc0 : c ≠ 0 := fun e => HT.out (by rw [e]; rfl)
      have hget : ∀ h, (str (c :: r))[0]'h = c := fun h => str_get (l := c :: r) (i := 0) rfl h
      have m1 : ((c.toNat : Int) == 0) = false := by
        simp only [beq_eq_false_iff_ne, ne_eq]
        intro e
        exact hc0 (UInt8.toNat_inj.1 (by show c.toNat = 0; omega))
      go_wp2_with fail
      have y0 := HA4.out.cell (j := 0) rfl
      have y1 := HA4.out.cell (j := 1) rfl
      refine bodyPost_ret (v := nint false (c :: r)) (by simp [results, Tryz.results56, go_sem, y0, y1, nint]) rfl ⟨rfl, ?_⟩
      exact (HBY.out.setCell (Nat.le_succ _) _).setCell (Nat.le_succ _) _

/-- A box that is written: all that a walk wants of it. -/
structure IB (w : World) (b : Nat) (m : Bs) : Prop where
  arr : Arr w b 50 [.bool false, .string (str m)]
  c0 : w.cell? ⟨b, 0, none⟩ = some (.bool false)
  c1 : w.cell? ⟨b, 1, none⟩ = some (.string (str m))
  f0 : w.frozen? ⟨b, 0, none⟩ = false
  f1 : w.frozen? ⟨b, 1, none⟩ = false
theorem ib_of {w : World} {b : Nat} {m : Bs} (h : Arr w b 50 [.bool false, .string (str m)]) : IB w b m := ⟨h, h.cell rfl, h.cell rfl, h.free 0, h.free 1⟩
/-- What intOrder's first statement keeps: both boxes. -/
theorem ib_all {wz w' : World} {b : Nat} {x y : Bs} (h1 : Arr w' b 50 [.bool false, .string (str x)]) (h2 : Arr w' (b + 1) 50 [.bool false, .string (str y)]) (h3 : Below b wz w') :
    w'.cell? ⟨b, 0, none⟩ = some (.bool false) ∧ w'.cell? ⟨b, 1, none⟩ = some (.string (str x)) ∧ w'.cell? ⟨b + 1, 0, none⟩ = some (.bool false) ∧ w'.cell? ⟨b + 1, 1, none⟩ = some (.string (str y)) ∧
    w'.frozen? ⟨b, 0, none⟩ = false ∧ w'.frozen? ⟨b, 1, none⟩ = false ∧ w'.frozen? ⟨b + 1, 0, none⟩ = false ∧ w'.frozen? ⟨b + 1, 1, none⟩ = false ∧ Arr w' b 50 [.bool false, .string (str x)] ∧ Arr w' (b + 1) 50 [.bool false, .string (str y)] ∧ Below b wz w' :=
  ⟨h1.cell rfl, h1.cell rfl, h2.cell rfl, h2.cell rfl, h1.free 0, h1.free 1, h2.free 0, h2.free 1, h1, h2, h3⟩
theorem ib_next {wz w' w1 : World} {b : Nat} {x y : Bs} (h : w'.cell? ⟨b, 0, none⟩ = some (.bool false) ∧ w'.cell? ⟨b, 1, none⟩ = some (.string (str x)) ∧ w'.cell? ⟨b + 1, 0, none⟩ = some (.bool false) ∧ w'.cell? ⟨b + 1, 1, none⟩ = some (.string (str y)) ∧
    w'.frozen? ⟨b, 0, none⟩ = false ∧ w'.frozen? ⟨b, 1, none⟩ = false ∧ w'.frozen? ⟨b + 1, 0, none⟩ = false ∧ w'.frozen? ⟨b + 1, 1, none⟩ = false ∧ Arr w' b 50 [.bool false, .string (str x)] ∧ Arr w' (b + 1) 50 [.bool false, .string (str y)] ∧ Below b wz w') (hB : Below w'.heap.size w' w1) :
    w1.cell? ⟨b, 0, none⟩ = some (.bool false) ∧ w1.cell? ⟨b, 1, none⟩ = some (.string (str x)) ∧ w1.cell? ⟨b + 1, 0, none⟩ = some (.bool false) ∧ w1.cell? ⟨b + 1, 1, none⟩ = some (.string (str y)) ∧
    w1.frozen? ⟨b, 0, none⟩ = false ∧ w1.frozen? ⟨b, 1, none⟩ = false ∧ w1.frozen? ⟨b + 1, 0, none⟩ = false ∧ w1.frozen? ⟨b + 1, 1, none⟩ = false ∧ Arr w1 b 50 [.bool false, .string (str x)] ∧ Arr w1 (b + 1) 50 [.bool false, .string (str y)] ∧ Below b wz w1 :=
  have h9 := h.2.2.2.2.2.2.2.2
  ib_all (h9.1.below hB) (h9.2.1.below hB) (h9.2.2.trans (hB.mono (Nat.le_of_lt h9.1.lt)))
theorem ib_set1 {wz w' : World} {b : Nat} {x y : Bs} (h : w'.cell? ⟨b, 0, none⟩ = some (.bool false) ∧ w'.cell? ⟨b, 1, none⟩ = some (.string (str x)) ∧ w'.cell? ⟨b + 1, 0, none⟩ = some (.bool false) ∧ w'.cell? ⟨b + 1, 1, none⟩ = some (.string (str y)) ∧
    w'.frozen? ⟨b, 0, none⟩ = false ∧ w'.frozen? ⟨b, 1, none⟩ = false ∧ w'.frozen? ⟨b + 1, 0, none⟩ = false ∧ w'.frozen? ⟨b + 1, 1, none⟩ = false ∧ Arr w' b 50 [.bool false, .string (str x)] ∧ Arr w' (b + 1) 50 [.bool false, .string (str y)] ∧ Below b wz w') :
    ((w'.setCell ⟨b, 0, none⟩ (.bool false)).setCell ⟨b, 1, none⟩ (.string (str x))).cell? ⟨b, 0, none⟩ = some (.bool false) ∧ ((w'.setCell ⟨b, 0, none⟩ (.bool false)).setCell ⟨b, 1, none⟩ (.string (str x))).cell? ⟨b, 1, none⟩ = some (.string (str x)) ∧ ((w'.setCell ⟨b, 0, none⟩ (.bool false)).setCell ⟨b, 1, none⟩ (.string (str x))).cell? ⟨b + 1, 0, none⟩ = some (.bool false) ∧ ((w'.setCell ⟨b, 0, none⟩ (.bool false)).setCell ⟨b, 1, none⟩ (.string (str x))).cell? ⟨b + 1, 1, none⟩ = some (.string (str y)) ∧
    ((w'.setCell ⟨b, 0, none⟩ (.bool false)).setCell ⟨b, 1, none⟩ (.string (str x))).frozen? ⟨b, 0, none⟩ = false ∧ ((w'.setCell ⟨b, 0, none⟩ (.bool false)).setCell ⟨b, 1, none⟩ (.string (str x))).frozen? ⟨b, 1, none⟩ = false ∧ ((w'.setCell ⟨b, 0, none⟩ (.bool false)).setCell ⟨b, 1, none⟩ (.string (str x))).frozen? ⟨b + 1, 0, none⟩ = false ∧ ((w'.setCell ⟨b, 0, none⟩ (.bool false)).setCell ⟨b, 1, none⟩ (.string (str x))).frozen? ⟨b + 1, 1, none⟩ = false ∧ Arr ((w'.setCell ⟨b, 0, none⟩ (.bool false)).setCell ⟨b, 1, none⟩ (.string (str x))) b 50 [.bool false, .string (str x)] ∧ Arr ((w'.setCell ⟨b, 0, none⟩ (.bool false)).setCell ⟨b, 1, none⟩ (.string (str x))) (b + 1) 50 [.bool false, .string (str y)] ∧ Below b wz ((w'.setCell ⟨b, 0, none⟩ (.bool false)).setCell ⟨b, 1, none⟩ (.string (str x))) :=
  have h9 := h.2.2.2.2.2.2.2.2
  ib_all ((h9.1.set 0 (.bool false)).set 1 (.string (str x))) ((h9.2.1.setOther (a := ⟨b, 0, none⟩) (Nat.ne_of_gt (Nat.lt_succ_self _)) _).setOther (a := ⟨b, 1, none⟩) (Nat.ne_of_gt (Nat.lt_succ_self _)) _) ((h9.2.2.setCell (Nat.le_refl _) _).setCell (Nat.le_refl _) _)
theorem ib_set2 {wz w' : World} {b : Nat} {x y : Bs} (h : w'.cell? ⟨b, 0, none⟩ = some (.bool false) ∧ w'.cell? ⟨b, 1, none⟩ = some (.string (str x)) ∧ w'.cell? ⟨b + 1, 0, none⟩ = some (.bool false) ∧ w'.cell? ⟨b + 1, 1, none⟩ = some (.string (str y)) ∧
    w'.frozen? ⟨b, 0, none⟩ = false ∧ w'.frozen? ⟨b, 1, none⟩ = false ∧ w'.frozen? ⟨b + 1, 0, none⟩ = false ∧ w'.frozen? ⟨b + 1, 1, none⟩ = false ∧ Arr w' b 50 [.bool false, .string (str x)] ∧ Arr w' (b + 1) 50 [.bool false, .string (str y)] ∧ Below b wz w') :
    ((w'.setCell ⟨b + 1, 0, none⟩ (.bool false)).setCell ⟨b + 1, 1, none⟩ (.string (str y))).cell? ⟨b, 0, none⟩ = some (.bool false) ∧ ((w'.setCell ⟨b + 1, 0, none⟩ (.bool false)).setCell ⟨b + 1, 1, none⟩ (.string (str y))).cell? ⟨b, 1, none⟩ = some (.string (str x)) ∧ ((w'.setCell ⟨b + 1, 0, none⟩ (.bool false)).setCell ⟨b + 1, 1, none⟩ (.string (str y))).cell? ⟨b + 1, 0, none⟩ = some (.bool false) ∧ ((w'.setCell ⟨b + 1, 0, none⟩ (.bool false)).setCell ⟨b + 1, 1, none⟩ (.string (str y))).cell? ⟨b + 1, 1, none⟩ = some (.string (str y)) ∧
    ((w'.setCell ⟨b + 1, 0, none⟩ (.bool false)).setCell ⟨b + 1, 1, none⟩ (.string (str y))).frozen? ⟨b, 0, none⟩ = false ∧ ((w'.setCell ⟨b + 1, 0, none⟩ (.bool false)).setCell ⟨b + 1, 1, none⟩ (.string (str y))).frozen? ⟨b, 1, none⟩ = false ∧ ((w'.setCell ⟨b + 1, 0, none⟩ (.bool false)).setCell ⟨b + 1, 1, none⟩ (.string (str y))).frozen? ⟨b + 1, 0, none⟩ = false ∧ ((w'.setCell ⟨b + 1, 0, none⟩ (.bool false)).setCell ⟨b + 1, 1, none⟩ (.string (str y))).frozen? ⟨b + 1, 1, none⟩ = false ∧ Arr ((w'.setCell ⟨b + 1, 0, none⟩ (.bool false)).setCell ⟨b + 1, 1, none⟩ (.string (str y))) b 50 [.bool false, .string (str x)] ∧ Arr ((w'.setCell ⟨b + 1, 0, none⟩ (.bool false)).setCell ⟨b + 1, 1, none⟩ (.string (str y))) (b + 1) 50 [.bool false, .string (str y)] ∧ Below b wz ((w'.setCell ⟨b + 1, 0, none⟩ (.bool false)).setCell ⟨b + 1, 1, none⟩ (.string (str y))) :=
  have h9 := h.2.2.2.2.2.2.2.2
  ib_all ((h9.1.setOther (a := ⟨b + 1, 0, none⟩) (Nat.ne_of_lt (Nat.lt_succ_self _)) _).setOther (a := ⟨b + 1, 1, none⟩) (Nat.ne_of_lt (Nat.lt_succ_self _)) _) ((h9.2.1.set 0 (.bool false)).set 1 (.string (str y))) ((h9.2.2.setCell (Nat.le_succ _) _).setCell (Nat.le_succ _) _)

set_option maxHeartbeats 8000000 in
set_option maxRecDepth 100000 in
theorem intOrder45 (x y : Bs) (hx : Tidy x) (hy : Tidy y) (lx : x.length ≤ 1000000) (ly : y.length ≤ 1000000) (w : World) :
    Calls Tryz.prog 45 #[.agg #[.bool false, .string (str x)], .agg #[.bool false, .string (str y)]] w fun e w' => e = .returned (.int .i64 (cmpMag x y)) ∧ Below w.heap.size w w' := by
  have hss := str_size
  obtain ⟨wz, hwz⟩ : ∃ z, z = (w.alloc (Obj.cells #[Value.bool false, Value.string (str x)] 50)).alloc (Obj.cells #[Value.bool false, Value.string (str y)] 50) := ⟨_, rfl⟩
  have hB : Below w.heap.size w wz := by rw [hwz]; exact ((Below.refl _ _).alloc (Nat.le_refl _) _).alloc (by rw [size_alloc]; omega) _
  have hA1 : Arr wz w.heap.size 50 [.bool false, .string (str x)] := by rw [hwz]; exact (Arr.new w 50 [.bool false, .string (str x)]).alloc _
  have hA2 : Arr wz (w.heap.size + 1) 50 [.bool false, .string (str y)] := by
    rw [hwz]
    have := Arr.new (w.alloc (Obj.cells #[Value.bool false, Value.string (str x)] 50)) 50 [.bool false, .string (str y)]
    rw [size_alloc] at this; exact this
  have HB := Lib.hid hB
  have HX := Lib.hid (show ∀ w, Calls Tryz.prog 56 #[.agg #[.bool false, .string (str x)]] w fun e w' => e = .returned (.agg #[.bool false, .string (str x)]) ∧ Below w.heap.size w w' from fun w => tidy56 x hx lx w)
  have HY := Lib.hid (show ∀ w, Calls Tryz.prog 56 #[.agg #[.bool false, .string (str y)]] w fun e w' => e = .returned (.agg #[.bool false, .string (str y)]) ∧ Below w.heap.size w w' from fun w => tidy56 y hy ly w)
  have HA1 := Lib.hid hA1
  have HA2 := Lib.hid hA2
  clear hB hA1 hA2 hx hy
  go_enter Tryz.func45, Tryz.ntmps45
  go_wp2_with fail
  rw [← hwz]
  clear hwz
  have hS0 : wz.cell? ⟨w.heap.size, 0, none⟩ = some (.bool false) ∧ wz.cell? ⟨w.heap.size, 1, none⟩ = some (.string (str x)) ∧ wz.cell? ⟨w.heap.size + 1, 0, none⟩ = some (.bool false) ∧ wz.cell? ⟨w.heap.size + 1, 1, none⟩ = some (.string (str y)) ∧ wz.frozen? ⟨w.heap.size, 0, none⟩ = false ∧ wz.frozen? ⟨w.heap.size, 1, none⟩ = false ∧ wz.frozen? ⟨w.heap.size + 1, 0, none⟩ = false ∧ wz.frozen? ⟨w.heap.size + 1, 1, none⟩ = false ∧ Arr wz w.heap.size 50 [.bool false, .string (str x)] ∧ Arr wz (w.heap.size + 1) 50 [.bool false, .string (str y)] ∧ Below w.heap.size wz wz := ib_all HA1.out HA2.out (Below.refl _ _)
  go_region_held3 (fun w' => w'.cell? ⟨w.heap.size, 0, none⟩ = some (.bool false) ∧ w'.cell? ⟨w.heap.size, 1, none⟩ = some (.string (str x)) ∧ w'.cell? ⟨w.heap.size + 1, 0, none⟩ = some (.bool false) ∧ w'.cell? ⟨w.heap.size + 1, 1, none⟩ = some (.string (str y)) ∧ w'.frozen? ⟨w.heap.size, 0, none⟩ = false ∧ w'.frozen? ⟨w.heap.size, 1, none⟩ = false ∧ w'.frozen? ⟨w.heap.size + 1, 0, none⟩ = false ∧ w'.frozen? ⟨w.heap.size + 1, 1, none⟩ = false ∧ Arr w' w.heap.size 50 [.bool false, .string (str x)] ∧ Arr w' (w.heap.size + 1) 50 [.bool false, .string (str y)] ∧ Below w.heap.size wz w')
    (first | with_reducible assumption | with_reducible exact ib_next (by assumption) ((Below.refl _ _).drew) | with_reducible exact ib_set1 (by assumption) | with_reducible exact ib_set2 (by assumption))
    (first
      | (go_at_call_of 56 (Value.agg #[Value.bool false, Value.string (str x)]); refine (HX.out _).mono ?_; rintro e w1 ⟨rfl, hB1⟩; have hS1 : w1.cell? ⟨w.heap.size, 0, none⟩ = some (.bool false) ∧ w1.cell? ⟨w.heap.size, 1, none⟩ = some (.string (str x)) ∧ w1.cell? ⟨w.heap.size + 1, 0, none⟩ = some (.bool false) ∧ w1.cell? ⟨w.heap.size + 1, 1, none⟩ = some (.string (str y)) ∧ w1.frozen? ⟨w.heap.size, 0, none⟩ = false ∧ w1.frozen? ⟨w.heap.size, 1, none⟩ = false ∧ w1.frozen? ⟨w.heap.size + 1, 0, none⟩ = false ∧ w1.frozen? ⟨w.heap.size + 1, 1, none⟩ = false ∧ Arr w1 w.heap.size 50 [.bool false, .string (str x)] ∧ Arr w1 (w.heap.size + 1) 50 [.bool false, .string (str y)] ∧ Below w.heap.size wz w1 := ib_next (by assumption) hB1)
      | (go_at_call_of 56 (Value.agg #[Value.bool false, Value.string (str y)]); refine (HY.out _).mono ?_; rintro e w1 ⟨rfl, hB1⟩; have hS1 : w1.cell? ⟨w.heap.size, 0, none⟩ = some (.bool false) ∧ w1.cell? ⟨w.heap.size, 1, none⟩ = some (.string (str x)) ∧ w1.cell? ⟨w.heap.size + 1, 0, none⟩ = some (.bool false) ∧ w1.cell? ⟨w.heap.size + 1, 1, none⟩ = some (.string (str y)) ∧ w1.frozen? ⟨w.heap.size, 0, none⟩ = false ∧ w1.frozen? ⟨w.heap.size, 1, none⟩ = false ∧ w1.frozen? ⟨w.heap.size + 1, 0, none⟩ = false ∧ w1.frozen? ⟨w.heap.size + 1, 1, none⟩ = false ∧ Arr w1 w.heap.size 50 [.bool false, .string (str x)] ∧ Arr w1 (w.heap.size + 1) 50 [.bool false, .string (str y)] ∧ Below w.heap.size wz w1 := ib_next (by assumption) hB1))
  rename_i hS9
  generalize ((((w1.setCell ⟨w.heap.size, 0, none⟩ (Value.bool false)).setCell ⟨w.heap.size, 1, none⟩ (Value.string (str x))).setCell ⟨w.heap.size + 1, 0, none⟩ (Value.bool false)).setCell ⟨w.heap.size + 1, 1, none⟩ (Value.string (str y))) = w9 at hS9 ⊢
  obtain ⟨c0, c1, d0, d1, _, _, _, _, _, _, hB9⟩ := hS9
  have HB9 := Lib.hid (HB.out.trans hB9)
  by_cases hxy : x.length = y.length
  · have m1 : ((x.length : Int) != (y.length : Int)) = false := by simp [hxy]
    have HC := Lib.hid (show cmpMag x y = cmpB x y by rw [cmpMag, if_neg (by omega)])
    clear hB9
    go_wp2_with fail
    (with_reducible refine (order58 x y _).mono ?_)
    rintro e w2 ⟨rfl, rfl⟩
    go_wp2_with fail
    go_ret
    exact ⟨by rw [HC.out]; rfl, HB9.out⟩
  · have m1 : ((x.length : Int) != (y.length : Int)) = true := by simp; omega
    have HC := Lib.hid (show cmpMag x y = cmpN x.length y.length by rw [cmpMag, if_pos hxy])
    clear hB9
    go_wp2_with fail
    (with_reducible refine (orderInts57 x.length y.length _).mono ?_)
    rintro e w2 ⟨rfl, rfl⟩
    go_wp2_with fail
    go_ret
    exact ⟨by rw [HC.out]; rfl, HB9.out⟩

set_option maxHeartbeats 8000000 in
set_option maxRecDepth 100000 in
theorem compareNumbers30 (x y : Bs) (hx : Tidy x) (hy : Tidy y) (lx : x.length ≤ 1000000) (ly : y.length ≤ 1000000) (gx gy cx cy : Nat) (w : World)
    (x0 : w.cell? ⟨gx, 0, none⟩ = some (.bool false)) (x1 : w.cell? ⟨gx, 1, none⟩ = some (.string (str x))) (y0 : w.cell? ⟨gy, 0, none⟩ = some (.bool false)) (y1 : w.cell? ⟨gy, 1, none⟩ = some (.string (str y))) :
    Calls Tryz.prog 30 #[.slice (some ⟨gx, 0, none⟩) 1 cx, .slice (some ⟨gy, 0, none⟩) 1 cy] w fun e w' => e = .returned (.int .i64 (cmpMag x y)) ∧ Below w.heap.size w w' := by
  have HO := Lib.hid fun w => intOrder45 x y hx hy lx ly w
  have HBn := Lib.hid (show ∀ a b : Obj, Below w.heap.size w ((w.alloc a).alloc b) from fun a b => ((Below.refl _ _).alloc (Nat.le_refl _) _).alloc (by rw [size_alloc]; omega) _)
  clear hx hy
  go_enter Tryz.func30, Tryz.ntmps30
  go_wp2_with fail
  obtain ⟨wo, rfl⟩ : ∃ wo : World, wo = w := ⟨_, rfl⟩
  go_loopw [5, 6, 7, 8] (fun i a b c wr => ∃ (av bv cv : Value) (k : Nat), av = a ∧ bv = b ∧ cv = c ∧ i = .int .i64 (k : Int) ∧ ((k = 0 ∧ wr = wo) ∨ (k = 1 ∧ cmpMag x y = 0 ∧ Hid (Below wo.heap.size wo wr)))) (fun i _ _ _ _ => 1 - (intOf i).toNat)
  case atStart => exact ⟨_, _, _, 0, rfl, rfl, rfl, rfl, .inl ⟨rfl, rfl⟩⟩
  case round =>
    obtain ⟨av, bv, cv, k, rfl, rfl, rfl, rfl, hk⟩ := hrel
    rcases hk with ⟨rfl, rfl⟩ | ⟨rfl, h0, HB⟩
    · have a0 := fun a b => cell_keep (HBn.out a b) x0
      have a1 := fun a b => cell_keep (HBn.out a b) x1
      have b0 := fun a b => cell_keep (HBn.out a b) y0
      have b1 := fun a b => cell_keep (HBn.out a b) y1
      clear x0 x1 y0 y1
      go_wp2_with fail
      (with_reducible refine (HO.out _).mono ?_)
      rintro e w1 ⟨rfl, hB1⟩
      have HB1 := Lib.hid ((HBn.out _ _).trans (hB1.mono (HBn.out _ _).size))
      clear hB1
      by_cases h0 : cmpMag x y = 0
      · have m1 : (cmpMag x y != 0) = false := by rw [h0]; rfl
        go_wp2_with fail
        go_roundw
        case rel => exact ⟨_, _, _, 1, rfl, rfl, rfl, rfl, .inr ⟨rfl, h0, HB1⟩⟩
        case measure => simp [intOf]
      · have m1 : (cmpMag x y != 0) = true := by simpa using h0
        go_wp2_with fail
        go_ret
        exact ⟨rfl, HB1.out⟩
    · go_wp2_with fail
      go_ret
      exact ⟨by rw [h0]; rfl, HB.out⟩

set_option maxHeartbeats 4000000 in
set_option maxRecDepth 100000 in
theorem number59 (q : Bs) (hq : allDig q = true) (hl : q.length ≤ 1000000) (w : World) :
    Calls Tryz.prog 59 #[.string (str q)] w fun e w' => e = .returned (.tuple #[nint false (bytesOf q), .bool true]) ∧ Below w.heap.size w w' := by
  have hss := str_size
  have hd : ∀ c ∈ q, isDig c = true := by
    simp only [allDig, Bool.and_eq_true, List.all_eq_true] at hq
    exact hq.2
  obtain ⟨c, r, hcr⟩ : ∃ c r, q = c :: r := by
    cases q with
    | nil => simp [allDig] at hq
    | cons c r => exact ⟨c, r, rfl⟩
  have hc := (isDig_iff c).1 (hd c (by rw [hcr]; simp))
  have m1 : ((c.toNat : Int) == 43) = false := by simp only [beq_eq_false_iff_ne, ne_eq]; omega
  have m2 : ((c.toNat : Int) == 45) = false := by simp only [beq_eq_false_iff_ne, ne_eq]; omega
  have hget : ∀ h, (str q)[0]'h = c := fun h => str_get (l := q) (i := 0) (by rw [hcr]; rfl) h
  have hl1 : 1 ≤ q.length := by rw [hcr]; simp
  obtain ⟨wo, hwo⟩ : ∃ x, x = w.alloc (Obj.cells #[Value.bool false, Value.string ⟨#[]⟩] 50) := ⟨_, rfl⟩
  have hB0 : Below w.heap.size w wo := by rw [hwo]; exact (Below.refl _ _).alloc (Nat.le_refl _) _
  have hA0 : Arr wo w.heap.size 50 [Value.bool false, Value.string ⟨#[]⟩] := by rw [hwo]; exact Arr.new _ _ _
  have H60 := Lib.hid fun w => allDigits60 q (by omega) w
  have H75 := Lib.hid (show ∀ w, Calls Tryz.prog 75 #[.string (str q)] w fun e w' => e = .returned (.agg #[.bool false, .string (str (bytesOf q))]) ∧ Below w.heap.size w w' from fun w => intOf75 q hd hl w)
  have HB0 := Lib.hid hB0
  have HA0 := Lib.hid hA0
  generalize bytesOf q = m at *
  clear hB0 hA0 hd hc hcr
  go_enter Tryz.func59, Tryz.ntmps59
  go_wp2_with fail
  rw [← hwo]
  clear hwo
  (with_reducible refine (H60.out _).mono ?_)
  rintro e w1 ⟨rfl, rfl⟩
  go_wp2_with fail
  (with_reducible refine (H75.out _).mono ?_)
  rintro e w2 ⟨rfl, hB2⟩
  have A0 := HA0.out.below hB2
  have B2 := HB0.out.trans (hB2.mono HB0.out.size)
  obtain ⟨wa, hwa⟩ : ∃ x, (w2.setCell ⟨w.heap.size, 0, none⟩ (.bool false)).setCell ⟨w.heap.size, 1, none⟩ (.string (str m)) = x := ⟨_, rfl⟩
  obtain ⟨wb, hwb⟩ : ∃ x, wa.setCell ⟨w.heap.size, 0, none⟩ (.bool false) = x := ⟨_, rfl⟩
  obtain ⟨wc, hwc⟩ : ∃ x, (wb.setCell ⟨w.heap.size, 0, none⟩ (.bool false)).setCell ⟨w.heap.size, 1, none⟩ (.string (str m)) = x := ⟨_, rfl⟩
  have Aa : Arr wa w.heap.size 50 [.bool false, .string (str m)] := by rw [← hwa]; exact (A0.set 0 (.bool false)).set 1 (.string (str m))
  have Ab : Arr wb w.heap.size 50 [.bool false, .string (str m)] := by rw [← hwb]; exact Aa.set 0 (.bool false)
  have Ac : Arr wc w.heap.size 50 [.bool false, .string (str m)] := by rw [← hwc]; exact (Ab.set 0 (.bool false)).set 1 (.string (str m))
  have Bc : Below w.heap.size w wc := by rw [← hwc, ← hwb, ← hwa]; exact ((((B2.setCell (Nat.le_refl _) _).setCell (Nat.le_refl _) _).setCell (Nat.le_refl _) _).setCell (Nat.le_refl _) _).setCell (Nat.le_refl _) _
  have z0 : w2.cell? ⟨w.heap.size, 0, none⟩ = some (.bool false) := A0.cell rfl
  have z1 : w2.cell? ⟨w.heap.size, 1, none⟩ = some (.string ⟨#[]⟩) := A0.cell rfl
  have z2 := A0.free 0
  have z3 := A0.free 1
  obtain ⟨_, a0, a1, a2, a3⟩ := ib_of Aa
  obtain ⟨_, b0, b1, b2, b3⟩ := ib_of Ab
  have HBc := Lib.hid Bc
  have HAc := Lib.hid Ac
  clear hB2 A0 B2 Aa Ab Ac Bc
  go_wp2_with fail
  have y0 := HAc.out.cell (j := 0) rfl
  have y1 := HAc.out.cell (j := 1) rfl
  refine bodyPost_ret (v := .tuple #[nint false m, .bool true]) (by simp [results, Tryz.results59, go_sem, y0, y1, nint]) rfl ⟨rfl, ?_⟩
  exact HBc.out

set_option maxHeartbeats 4000000 in
theorem numberOf46 (q : Bs) (hq : allDig q = true) (hl : q.length ≤ 1000000) (w : World) :
    Calls Tryz.prog 46 #[.string (str q)] w fun e w' => e = .returned (.tuple #[nint false (bytesOf q), .bool true]) ∧ Below w.heap.size w w' := by
  obtain ⟨wo, hwo⟩ : ∃ x, x = w.alloc (Obj.cells #[Value.bool false, Value.string ⟨#[]⟩] 50) := ⟨_, rfl⟩
  have hB0 : Below w.heap.size w wo := by rw [hwo]; exact (Below.refl _ _).alloc (Nat.le_refl _) _
  have hA0 : Arr wo w.heap.size 50 [Value.bool false, Value.string ⟨#[]⟩] := by rw [hwo]; exact Arr.new _ _ _
  have H59 := Lib.hid (show ∀ w, Calls Tryz.prog 59 #[.string (str q)] w fun e w' => e = .returned (.tuple #[.agg #[.bool false, .string (str (bytesOf q))], .bool true]) ∧ Below w.heap.size w w' from fun w => number59 q hq hl w)
  have HB0 := Lib.hid hB0
  have HA0 := Lib.hid hA0
  generalize bytesOf q = m at *
  clear hB0 hA0 hq
  go_enter Tryz.func46, Tryz.ntmps46
  go_wp2_with fail
  rw [← hwo]
  clear hwo
  (with_reducible refine (H59.out _).mono ?_)
  rintro e w2 ⟨rfl, hB2⟩
  have A0 := HA0.out.below hB2
  have B2 := HB0.out.trans (hB2.mono HB0.out.size)
  obtain ⟨wa, hwa⟩ : ∃ x, (w2.setCell ⟨w.heap.size, 0, none⟩ (.bool false)).setCell ⟨w.heap.size, 1, none⟩ (.string (str m)) = x := ⟨_, rfl⟩
  have Aa : Arr wa w.heap.size 50 [.bool false, .string (str m)] := by rw [← hwa]; exact (A0.set 0 (.bool false)).set 1 (.string (str m))
  have Bc : Below w.heap.size w wa := by rw [← hwa]; exact (B2.setCell (Nat.le_refl _) _).setCell (Nat.le_refl _) _
  have z0 : w2.cell? ⟨w.heap.size, 0, none⟩ = some (.bool false) := A0.cell rfl
  have z1 : w2.cell? ⟨w.heap.size, 1, none⟩ = some (.string ⟨#[]⟩) := A0.cell rfl
  have z2 := A0.free 0
  have z3 := A0.free 1
  have HBc := Lib.hid Bc
  have HAc := Lib.hid Aa
  clear hB2 A0 B2 Aa Bc
  go_wp2_with fail
  have y0 := HAc.out.cell (j := 0) rfl
  have y1 := HAc.out.cell (j := 1) rfl
  refine bodyPost_ret (v := .tuple #[nint false m, .bool true]) (by simp [results, Tryz.results46, go_sem, y0, y1, nint]) rfl ⟨rfl, ?_⟩
  exact HBc.out

set_option maxHeartbeats 4000000 in
theorem number31 (q : Bs) (hq : allDig q = true) (hl : q.length ≤ 1000000) (w : World) :
    Calls Tryz.prog 31 #[.string (str q)] w fun e w' => e = .returned (nint false (bytesOf q)) ∧ Below w.heap.size w w' := by
  obtain ⟨wo, hwo⟩ : ∃ x, x = w.alloc (Obj.cells #[Value.bool false, Value.string ⟨#[]⟩] 50) := ⟨_, rfl⟩
  have hB0 : Below w.heap.size w wo := by rw [hwo]; exact (Below.refl _ _).alloc (Nat.le_refl _) _
  have hA0 : Arr wo w.heap.size 50 [Value.bool false, Value.string ⟨#[]⟩] := by rw [hwo]; exact Arr.new _ _ _
  have H46 := Lib.hid (show ∀ w, Calls Tryz.prog 46 #[.string (str q)] w fun e w' => e = .returned (.tuple #[.agg #[.bool false, .string (str (bytesOf q))], .bool true]) ∧ Below w.heap.size w w' from fun w => numberOf46 q hq hl w)
  have HB0 := Lib.hid hB0
  have HA0 := Lib.hid hA0
  generalize bytesOf q = m at *
  clear hB0 hA0 hq
  go_enter Tryz.func31, Tryz.ntmps31
  go_wp2_with fail
  rw [← hwo]
  clear hwo
  (with_reducible refine (H46.out _).mono ?_)
  rintro e w2 ⟨rfl, hB2⟩
  have A0 := HA0.out.below hB2
  have B2 := HB0.out.trans (hB2.mono HB0.out.size)
  obtain ⟨wb, hwb⟩ : ∃ x, w2.alloc (Obj.cells #[Value.bool false, Value.string (str m)] 50) = x := ⟨_, rfl⟩
  have Ab : Arr wb w.heap.size 50 [.bool false, .string ⟨#[]⟩] := by rw [← hwb]; exact A0.alloc _
  have Bb : Below w.heap.size w wb := by rw [← hwb]; exact B2.alloc B2.size _
  have At : Arr wb w2.heap.size 50 [.bool false, .string (str m)] := by rw [← hwb]; exact Arr.new _ _ _
  obtain ⟨wa, hwa⟩ : ∃ x, (wb.setCell ⟨w.heap.size, 0, none⟩ (.bool false)).setCell ⟨w.heap.size, 1, none⟩ (.string (str m)) = x := ⟨_, rfl⟩
  have Aa : Arr wa w.heap.size 50 [.bool false, .string (str m)] := by rw [← hwa]; exact (Ab.set 0 (.bool false)).set 1 (.string (str m))
  have Bc : Below w.heap.size w wa := by rw [← hwa]; exact (Bb.setCell (Nat.le_refl _) _).setCell (Nat.le_refl _) _
  have z0 : wb.cell? ⟨w.heap.size, 0, none⟩ = some (.bool false) := Ab.cell rfl
  have z1 : wb.cell? ⟨w.heap.size, 1, none⟩ = some (.string ⟨#[]⟩) := Ab.cell rfl
  have z2 := Ab.free 0
  have z3 := Ab.free 1
  have t0 : wb.cell? ⟨w2.heap.size, 0, none⟩ = some (.bool false) := At.cell rfl
  have t1 : wb.cell? ⟨w2.heap.size, 1, none⟩ = some (.string (str m)) := At.cell rfl
  have HBc := Lib.hid Bc
  have HAc := Lib.hid Aa
  clear hB2 A0 B2 Aa Bc Ab Bb At
  go_wp2_with fail
  have y0 := HAc.out.cell (j := 0) rfl
  have y1 := HAc.out.cell (j := 1) rfl
  refine bodyPost_ret (v := nint false m) (by simp [results, Tryz.results31, go_sem, y0, y1, nint]) rfl ⟨rfl, ?_⟩
  exact HBc.out
end Go.Proofs.Tz
