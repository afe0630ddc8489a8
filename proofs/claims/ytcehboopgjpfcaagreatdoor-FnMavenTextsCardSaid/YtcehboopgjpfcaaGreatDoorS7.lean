/- Contract of the reference's mavenOne. -/
import Derived.Test.YtcehboopgjpfcaaGreatDoorS6
import Derived.BigQuiet
import Derived.Deep.QuietTactic
import Derived.WalkSpells
namespace Go.Proofs.Tz
open Go.RowKit Mv

theorem quiet_left7 {P : Program} {f : FuncId} {args : Array Value} {w : World} {n : Nat} {v : Value} (h : Calls P f args (w.drewN n) fun e w' => e = .returned v ∧ w.drewN n = w') :
    Calls P f args (w.drewN n) fun e w'' => e = .returned v ∧ ∃ m, w'' = w.drewN m := h.mono fun _ _ ⟨he, hm⟩ => ⟨he, n, hm.symm⟩
def res2 (c : Int × Bool) : Value := .tuple #[.int .i64 c.1, .bool c.2]

theorem one_ne {a b : Tok} (hp : a.p ≠ b.p) : Mv.one a b = (cmpN ((qord a).getD 0) ((qord b).getD 0), (qord a).isSome && (qord b).isSome) := by
  rw [Mv.one, if_pos hp]
  cases qord a <;> cases qord b <;> rfl
set_option maxHeartbeats 8000000 in
set_option maxRecDepth 100000 in
theorem one48 (a b : Tok) (ha : pOk a.p) (hb : pOk b.p) (la : a.v.length ≤ 1000000) (lb : b.v.length ≤ 1000000) (w : World) :
    Calls Tryz.prog 48 #[tagg a, tagg b] w fun e w' => e = .returned (res2 (Mv.one a b)) ∧ Below w.heap.size w w' := by
  obtain ⟨R, hR⟩ : ∃ R, R = Mv.one a b := ⟨_, rfl⟩
  rw [← hR]
  have h61a := fun w => order61 a ha la w
  have h61b := fun w => order61 b hb lb w
  obtain ⟨na, hna⟩ : ∃ n, n = (qord a).getD 0 := ⟨_, rfl⟩
  obtain ⟨sa, hsa⟩ : ∃ n, n = (qord a).isSome := ⟨_, rfl⟩
  obtain ⟨nb, hnb⟩ : ∃ n, n = (qord b).getD 0 := ⟨_, rfl⟩
  obtain ⟨sb, hsb⟩ : ∃ n, n = (qord b).isSome := ⟨_, rfl⟩
  rw [← hna, ← hsa] at h61a
  rw [← hnb, ← hsb] at h61b
  have HNA := Lib.hid hna
  have HSA := Lib.hid hsa
  have HNB := Lib.hid hnb
  have HSB := Lib.hid hsb
  have HSP := Lib.hid (show ∀ w, Calls Tryz.prog 64 #[.string ⟨#[115, 112]⟩] w fun e w' => e = .returned (.int .i64 6) ∧ Below w.heap.size w w' from fun w => keyword64 sSp w)
  clear hna hsa hnb hsb
  obtain ⟨ap, av, an⟩ := a
  obtain ⟨bp, bv, bn⟩ := b
  have la : av.length ≤ 1000000 := la
  have lb : bv.length ≤ 1000000 := lb
  unfold tagg sv at h61a h61b
  have H61A := Lib.hid h61a
  have H61B := Lib.hid h61b
  have htl := str_toList
  unfold tagg sv res2
  obtain ⟨wz, hwz⟩ : ∃ x, x = (w.alloc (Obj.cells #[Value.string (str ap), Value.string (str av), Value.bool an] 40)).alloc (Obj.cells #[Value.string (str bp), Value.string (str bv), Value.bool bn] 40) := ⟨_, rfl⟩
  have hB : Below w.heap.size w wz := by rw [hwz]; exact ((Below.refl _ _).alloc (Nat.le_refl _) _).alloc (by rw [size_alloc]; omega) _
  have hA1 : Arr wz w.heap.size 40 [sv ap, sv av, .bool an] := by rw [hwz]; exact (Arr.new w 40 [sv ap, sv av, .bool an]).alloc _
  have hA2 : Arr wz (w.heap.size + 1) 40 [sv bp, sv bv, .bool bn] := by
    rw [hwz]
    have := Arr.new (w.alloc (Obj.cells #[Value.string (str ap), Value.string (str av), Value.bool an] 40)) 40 [sv bp, sv bv, .bool bn]
    rw [size_alloc] at this; exact this
  have k0 : wz.cell? ⟨w.heap.size, 0, none⟩ = some (.string (str ap)) := hA1.cell (j := 0) rfl
  have k1 : wz.cell? ⟨w.heap.size, 1, none⟩ = some (.string (str av)) := hA1.cell (j := 1) rfl
  have k2 : wz.cell? ⟨w.heap.size, 2, none⟩ = some (.bool an) := hA1.cell (j := 2) rfl
  have j0 : wz.cell? ⟨w.heap.size + 1, 0, none⟩ = some (.string (str bp)) := hA2.cell (j := 0) rfl
  have j1 : wz.cell? ⟨w.heap.size + 1, 1, none⟩ = some (.string (str bv)) := hA2.cell (j := 1) rfl
  have j2 : wz.cell? ⟨w.heap.size + 1, 2, none⟩ = some (.bool bn) := hA2.cell (j := 2) rfl
  have H60A := Lib.hid fun w => allDigits60 av (by omega) w
  have H60B := Lib.hid fun w => allDigits60 bv (by omega) w
  have HB := Lib.hid hB
  have HR := Lib.hid hR
  clear h61a h61b hB hA1 hA2 hR
  go_enter Tryz.func48, Tryz.ntmps48
  go_wp2_with fail
  rw [← hwz]
  clear hwz
  go_quiet (first | (go_at_call_of 60 (Value.string (str av)); exact quiet_left7 (H60A.out _)) | (go_at_call_of 60 (Value.string (str bv)); exact quiet_left7 (H60B.out _)))
  obtain ⟨w9, hw9⟩ : ∃ x, x = wz.drewN nq := ⟨_, rfl⟩
  have HB9 : Hid (Below w.heap.size w w9) := by rw [hw9]; exact Lib.hid (below_drewN' HB.out _)
  have k0 : w9.cell? ⟨w.heap.size, 0, none⟩ = some (.string (str ap)) := by rw [hw9]; exact k0
  have k1 : w9.cell? ⟨w.heap.size, 1, none⟩ = some (.string (str av)) := by rw [hw9]; exact k1
  have k2 : w9.cell? ⟨w.heap.size, 2, none⟩ = some (.bool an) := by rw [hw9]; exact k2
  have j0 : w9.cell? ⟨w.heap.size + 1, 0, none⟩ = some (.string (str bp)) := by rw [hw9]; exact j0
  have j1 : w9.cell? ⟨w.heap.size + 1, 1, none⟩ = some (.string (str bv)) := by rw [hw9]; exact j1
  have j2 : w9.cell? ⟨w.heap.size + 1, 2, none⟩ = some (.bool bn) := by rw [hw9]; exact j2
  rw [← hw9]
  clear hw9
  have hkp := fun (w' : World) (h : Below w9.heap.size w9 w') => (⟨cell_keep h j0, cell_keep h j1, cell_keep h j2⟩ : w'.cell? ⟨w.heap.size + 1, 0, none⟩ = some (.string (str bp)) ∧ w'.cell? ⟨w.heap.size + 1, 1, none⟩ = some (.string (str bv)) ∧ w'.cell? ⟨w.heap.size + 1, 2, none⟩ = some (.bool bn))
  have HKP := Lib.hid hkp
  clear hkp
  by_cases hp : ap = bp
  · subst hp
    cases hx : allDig av <;> cases hy : allDig bv
    · go_wp2_with fail
      (with_reducible refine (qualifiers63 av bv _).mono ?_)
      rintro e w1 ⟨rfl, hB1⟩
      have HB1 := Lib.hid (HB9.out.trans (hB1.mono HB9.out.size))
      clear hB1
      go_wp2_with fail
      go_ret2
      exact ⟨by rw [HR.out]; simp [Mv.one, hx, hy]; try rfl, HB1.out⟩
    · cases bn
      · go_wp2_with fail
        go_ret2
        exact ⟨by rw [HR.out]; simp [Mv.one, hx, hy], HB9.out⟩
      · go_wp2_with fail
        (with_reducible refine (keyword64 av _).mono ?_)
        rintro e w1 ⟨rfl, hB1⟩
        have HB1 := Lib.hid (HB9.out.trans (hB1.mono HB9.out.size))
        clear hB1
        go_wp2_with fail
        (with_reducible refine (HSP.out _).mono ?_)
        rintro e w2 ⟨rfl, hB2⟩
        have HB2 := Lib.hid (HB1.out.trans (hB2.mono HB1.out.size))
        clear hB2
        by_cases h6 : 6 < kw av
        · go_wp2_with fail
          go_ret2
          exact ⟨by rw [HR.out]; simp [Mv.one, hx, hy, h6]; try rfl, HB2.out⟩
          
        · go_wp2_with fail
          go_ret2
          exact ⟨by rw [HR.out]; simp [Mv.one, hx, hy, h6]; try rfl, HB2.out⟩
          
    · cases an
      · go_wp2_with fail
        go_ret2
        exact ⟨by rw [HR.out]; simp [Mv.one, hx, hy], HB9.out⟩
      · go_wp2_with fail
        (with_reducible refine (keyword64 bv _).mono ?_)
        rintro e w1 ⟨rfl, hB1⟩
        have HB1 := Lib.hid (HB9.out.trans (hB1.mono HB9.out.size))
        clear hB1
        go_wp2_with fail
        (with_reducible refine (HSP.out _).mono ?_)
        rintro e w2 ⟨rfl, hB2⟩
        have HB2 := Lib.hid (HB1.out.trans (hB2.mono HB1.out.size))
        clear hB2
        by_cases h6 : 6 < kw bv
        · go_wp2_with fail
          go_ret2
          exact ⟨by rw [HR.out]; simp [Mv.one, hx, hy, h6]; try rfl, HB2.out⟩
          
        · go_wp2_with fail
          go_ret2
          exact ⟨by rw [HR.out]; simp [Mv.one, hx, hy, h6]; try rfl, HB2.out⟩
          
    · go_wp2_with fail
      (with_reducible refine (orderNumbers62 av bv la lb _).mono ?_)
      rintro e w1 ⟨rfl, rfl⟩
      go_wp2_with fail
      go_ret2
      exact ⟨by rw [HR.out]; simp [Mv.one, hx, hy]; try rfl, HB9.out⟩
  · have m1 : (ap == bp) = false := by simpa using hp
    have m2 : (ap != bp) = true := by simpa using hp
    have HONE := Lib.hid (one_ne (a := ⟨ap, av, an⟩) (b := ⟨bp, bv, bn⟩) hp)
    rw [← HNA.out, ← HSA.out, ← HNB.out, ← HSB.out] at HONE
    clear hp
    go_wp2_with fail
    (with_reducible refine (H61A.out _).mono ?_)
    rintro e w1 ⟨rfl, hB1⟩
    obtain ⟨j0, j1, j2⟩ := HKP.out w1 hB1
    have HB1 := Lib.hid (HB9.out.trans (hB1.mono HB9.out.size))
    clear hB1
    go_wp2_with fail
    (with_reducible refine (H61B.out _).mono ?_)
    rintro e w2 ⟨rfl, hB2⟩
    have HB2 := Lib.hid (HB1.out.trans (hB2.mono HB1.out.size))
    clear hB2
    go_wp2_with fail
    (with_reducible refine (orderInts57 na nb _).mono ?_)
    rintro e w3 ⟨rfl, rfl⟩
    cases sa <;> cases sb
    all_goals
      go_wp2_with fail
      go_ret2
      exact ⟨by rw [HR.out, HONE.out]; rfl, HB2.out⟩
end Go.Proofs.Tz
