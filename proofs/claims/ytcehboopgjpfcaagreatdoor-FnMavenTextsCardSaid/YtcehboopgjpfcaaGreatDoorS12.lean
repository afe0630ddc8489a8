/- Contract of the reference's MavenCompare. -/
import Derived.Test.YtcehboopgjpfcaaGreatDoorS7
import Derived.Test.YtcehboopgjpfcaaGreatDoorS10
namespace Go.Proofs.Mv
theorem drop_cons {l : List Tok} {i : Nat} {t : Tok} (h : l[i]? = some t) : l.drop i = t :: l.drop (i + 1) := by
  obtain ⟨hl, he⟩ := List.getElem?_eq_some_iff.1 h
  rw [List.drop_eq_getElem_cons hl, he]
theorem cmpS_both {a b : List Tok} {i : Nat} {x y : Tok} (hx : a[i]? = some x) (hy : b[i]? = some y) :
    cmpS (a.drop i) (b.drop i) = if (Mv.one x y).2 = false ∨ (Mv.one x y).1 ≠ 0 then Mv.one x y else cmpS (a.drop (i + 1)) (b.drop (i + 1)) := by
  rw [drop_cons hx, drop_cons hy, cmpS]
theorem cmpS_right {a b : List Tok} {i : Nat} {y : Tok} (hx : a.length ≤ i) (hy : b[i]? = some y) :
    cmpS (a.drop i) (b.drop i) = match tnull y with
      | none => (0, false)
      | some x => if (Mv.one x y).2 = false ∨ (Mv.one x y).1 ≠ 0 then Mv.one x y else cmpS (a.drop (i + 1)) (b.drop (i + 1)) := by
  rw [List.drop_eq_nil_of_le hx, drop_cons hy, cmpS, List.drop_eq_nil_of_le (show a.length ≤ i + 1 by omega)]; rfl
theorem cmpS_left {a b : List Tok} {i : Nat} {x : Tok} (hx : a[i]? = some x) (hy : b.length ≤ i) :
    cmpS (a.drop i) (b.drop i) = match tnull x with
      | none => (0, false)
      | some y => if (Mv.one x y).2 = false ∨ (Mv.one x y).1 ≠ 0 then Mv.one x y else cmpS (a.drop (i + 1)) (b.drop (i + 1)) := by
  rw [List.drop_eq_nil_of_le hy, drop_cons hx, cmpS, List.drop_eq_nil_of_le (show b.length ≤ i + 1 by omega)]; rfl
theorem tnull_ok {t x : Tok} (h : tnull t = some x) : (x.p = [] ∨ x.p = [46] ∨ x.p = [45]) ∧ x.v.length ≤ 1000000 := by
  unfold tnull at h
  split at h
  · injection h with h
    subst h
    refine ⟨.inr (.inl rfl), ?_⟩
    show (if t.v = sSp then ([] : Bs) else [48]).length ≤ _
    split <;> simp
  · split at h
    · injection h with h
      subst h
      exact ⟨.inr (.inr rfl), by simp⟩
    · cases h
end Go.Proofs.Mv
namespace Go.Proofs.Tz
open Go.RowKit Mv

set_option maxHeartbeats 16000000 in
set_option maxRecDepth 100000 in
theorem compare32 (va vb : Value) (a b : List Tok) (ba bb : Nat) (w : World) (hA : Toks 40 w ba va a) (hB : Toks 40 w bb vb b) (la : a.length ≤ 1000000) (lb : b.length ≤ 1000000)
    (oa : ∀ t ∈ a, pOk t.p ∧ t.v.length ≤ 1000000) (ob : ∀ t ∈ b, pOk t.p ∧ t.v.length ≤ 1000000) :
    Calls Tryz.prog 32 #[va, vb] w fun e w' => e = .returned (res2 (cmpS a b)) ∧ Below w.heap.size w w' := by
  obtain ⟨xa, ca, rfl⟩ := toks_form hA
  obtain ⟨xb, cb, rfl⟩ := toks_form hB
  have HA := Lib.hid hA
  have HB := Lib.hid hB
  have OA := Lib.hid oa
  have OB := Lib.hid ob
  unfold res2
  clear hA hB oa ob
  go_enter Tryz.func32, Tryz.ntmps32
  go_wp2_with fail
  obtain ⟨wo, rfl⟩ : ∃ wo : World, wo = w := ⟨_, rfl⟩
  go_loopw [5, 6, 7, 8, 9, 10] (fun k i x y c d wr => ∃ (kv xv yv cv dv : Value) (n : Nat), kv = k ∧ xv = x ∧ yv = y ∧ cv = c ∧ dv = d ∧ i = .int .i64 (n : Int) ∧ n ≤ 1000000 ∧ Hid (cmpS a b = cmpS (a.drop n) (b.drop n)) ∧ Hid (Below wo.heap.size wo wr)) (fun _ i _ _ _ _ _ => 1000000 - (intOf i).toNat)
  case atStart => exact ⟨_, _, _, _, _, 0, rfl, rfl, rfl, rfl, rfl, rfl, Nat.zero_le _, Lib.hid rfl, Lib.hid (Below.refl _ _)⟩
  case round =>
    obtain ⟨kv, xv, yv, cv, dv, n, rfl, rfl, rfl, rfl, rfl, rfl, hn, HC, HBW⟩ := hrel
    by_cases hna : n < a.length
    · obtain ⟨x, hx⟩ : ∃ x, a[n]? = some x := ⟨_, List.getElem?_eq_getElem hna⟩
      have hox := OA.out x (List.mem_of_getElem? hx)
      by_cases hnb : n < b.length
      · obtain ⟨y, hy⟩ : ∃ y, b[n]? = some y := ⟨_, List.getElem?_eq_getElem hnb⟩
        have hoy := OB.out y (List.mem_of_getElem? hy)
        obtain ⟨ga, capga, hva, _, _⟩ := World.ownsRow.form HA.out (by omega)
        injection hva with z1 _ z3
        subst z1 z3
        obtain ⟨gb, capgb, hvb, _, _⟩ := World.ownsRow.form HB.out (by omega)
        injection hvb with z1 _ z3
        subst z1 z3
        have hal : ∀ o1 o2 : Obj, Below wr.heap.size wr ((wr.alloc o1).alloc o2) := fun o1 o2 => ((Below.refl _ _).alloc (Nat.le_refl _) _).alloc (by rw [size_alloc]; omega) _
        have hta := fun o1 o2 => tok_at ((HA.out.below HBW.out).below (hal o1 o2)) hx
        have htb := fun o1 o2 => tok_at ((HB.out.below HBW.out).below (hal o1 o2)) hy
        have a0 := fun o1 o2 => (hta o1 o2).1
        have a1 := fun o1 o2 => (hta o1 o2).2.1
        have a2 := fun o1 o2 => (hta o1 o2).2.2
        have b0 := fun o1 o2 => (htb o1 o2).1
        have b1 := fun o1 o2 => (htb o1 o2).2.1
        have b2 := fun o1 o2 => (htb o1 o2).2.2
        obtain ⟨⟨rc, rk⟩, hR⟩ : ∃ r, r = Mv.one x y := ⟨_, rfl⟩
        have hst := cmpS_both hx hy
        rw [← hR] at hst
        have HST := Lib.hid hst
        have H1 := Lib.hid (show ∀ w, Calls Tryz.prog 48 #[.agg #[.string (str x.p), .string (str x.v), .bool x.n], .agg #[.string (str y.p), .string (str y.v), .bool y.n]] w fun e w' => e = .returned (.tuple #[.int .i64 rc, .bool rk]) ∧ Below w.heap.size w w' from fun w => by have h := one48 x y hox.1 hoy.1 hox.2 hoy.2 w; unfold res2 tagg sv at h; rw [← hR] at h; exact h)
        have HAL := Lib.hid hal
        clear hta htb hal hx hy hox hoy hst hR
        go_wp2_with fail
        go_region
        go_wp2_with fail
        have HBZ := fun o1 o2 => Lib.hid (HBW.out.trans ((HAL.out o1 o2).drew.mono HBW.out.size))
        (with_reducible refine (H1.out _).mono ?_)
        rintro e w5 ⟨rfl, hB5⟩
        have HB5 : Hid (Below wo.heap.size wo w5) := Lib.hid ((HBZ _ _).out.trans (hB5.mono (HBZ _ _).out.size))
        clear hB5
        cases rk
        · have HV : Hid (cmpS a b = (rc, false)) := Lib.hid (by rw [HC.out, HST.out]; simp)
          go_wp2_with fail
          go_ret2
          exact ⟨by rw [HV.out]; rfl, HB5.out⟩
        · by_cases hr0 : rc = 0
          · subst hr0
            have HV : Hid (cmpS a b = cmpS (a.drop (n + 1)) (b.drop (n + 1))) := Lib.hid (by rw [HC.out, HST.out]; simp)
            go_wp2_with fail
            go_roundw
            case rel => (exact ⟨_, _, _, _, _, n + 1, rfl, rfl, rfl, rfl, rfl, by go_num, by omega, HV, HB5⟩)
            case measure => simp [intOf]; omega
          · have m1 : (rc != 0) = true := by simpa using hr0
            have HV : Hid (cmpS a b = (rc, true)) := Lib.hid (by rw [HC.out, HST.out]; simp [hr0])
            go_wp2_with fail
            go_ret2
            exact ⟨by rw [HV.out]; rfl, HB5.out⟩
      · obtain ⟨ga, cap', hva, _, _⟩ := World.ownsRow.form HA.out (by omega)
        injection hva with z1 _ z3
        subst z1 z3
        have hal : ∀ o1 o2 : Obj, Below wr.heap.size wr ((wr.alloc o1).alloc o2) := fun o1 o2 => ((Below.refl _ _).alloc (Nat.le_refl _) _).alloc (by rw [size_alloc]; exact Nat.le_succ _) _
        have htt := fun o1 o2 => tok_at ((HA.out.below HBW.out).below (hal o1 o2)) hx
        have a0 := fun o1 o2 => (htt o1 o2).1
        have a1 := fun o1 o2 => (htt o1 o2).2.1
        have a2 := fun o1 o2 => (htt o1 o2).2.2
        have hst := cmpS_left hx (Nat.le_of_not_lt hnb)
        obtain ⟨w8, hw8⟩ : ∃ z, (wr.alloc (Obj.cells #[Value.string (str x.p), Value.string (str x.v), Value.bool x.n] 40)).alloc (Obj.cells #[Value.string ⟨#[]⟩, Value.string ⟨#[]⟩, Value.bool false] 40) = z := ⟨_, rfl⟩
        have h8t : Arr w8 wr.heap.size 40 [sv x.p, sv x.v, .bool x.n] := by
          rw [← hw8]
          exact (Arr.new wr 40 [sv x.p, sv x.v, .bool x.n]).alloc _
        have h8n : Arr w8 (wr.heap.size + 1) 40 [sv [], sv [], .bool false] := by
          rw [← hw8]
          have h := Arr.new (wr.alloc (Obj.cells #[Value.string (str x.p), Value.string (str x.v), Value.bool x.n] 40)) 40 [sv [], sv [], .bool false]; rw [size_alloc] at h; exact h
        have hB8 : Below wo.heap.size wo w8 := by rw [← hw8]; exact HBW.out.trans ((hal _ _).mono HBW.out.size)
        have k0 : w8.cell? ⟨wr.heap.size, 0, none⟩ = some (.string (str x.p)) := h8t.cell rfl
        have k1 : w8.cell? ⟨wr.heap.size, 1, none⟩ = some (.string (str x.v)) := h8t.cell rfl
        have k2 : w8.cell? ⟨wr.heap.size, 2, none⟩ = some (.bool x.n) := h8t.cell rfl
        have HT8 := Lib.hid h8t
        have HN8 := Lib.hid h8n
        have HB8 := Lib.hid hB8
        have hnu := fun w => null47 x hox.1 w
        unfold tagg sv at hnu
        have HNU := Lib.hid hnu
        have HOT := Lib.hid hox
        have HSTT := Lib.hid hst
        clear htt hal h8t h8n hB8 hnu hx hox hst
        go_wp2_with fail
        clear hw8 a0 a1 a2 k0 k1 k2
        (with_reducible refine (HNU.out _).mono ?_)
        rintro e w1 ⟨rfl, hB1⟩
        have hA1 := HT8.out.below hB1
        have hN1 := HN8.out.below hB1
        obtain ⟨y, hnx⟩ : ∃ z, z = (tnull x).getD ⟨[], [], false⟩ := ⟨_, rfl⟩
        rw [← hnx]
        obtain ⟨w2, hw2⟩ : ∃ z, ((w1.setCell ⟨wr.heap.size + 1, 0, none⟩ (.string (str y.p))).setCell ⟨wr.heap.size + 1, 1, none⟩ (.string (str y.v))).setCell ⟨wr.heap.size + 1, 2, none⟩ (.bool y.n) = z := ⟨_, rfl⟩
        have hne : wr.heap.size ≠ wr.heap.size + 1 := by omega
        have hA2 : Arr w2 wr.heap.size 40 [sv x.p, sv x.v, .bool x.n] := by
          rw [← hw2]
          exact ((hA1.setOther (a := ⟨wr.heap.size + 1, 0, none⟩) hne _).setOther (a := ⟨wr.heap.size + 1, 1, none⟩) hne _).setOther (a := ⟨wr.heap.size + 1, 2, none⟩) hne _
        have hN2 : Arr w2 (wr.heap.size + 1) 40 [sv y.p, sv y.v, .bool y.n] := by
          rw [← hw2]
          exact ((hN1.set 0 (sv y.p)).set 1 (sv y.v)).set 2 (.bool y.n)
        have hB1' : Below wo.heap.size wo w1 := HB8.out.trans (hB1.mono HB8.out.size)
        have hwle : wo.heap.size ≤ wr.heap.size + 1 := by have := HBW.out.size; omega
        have hB2 : Below wo.heap.size wo w2 := by
          rw [← hw2]
          exact ((hB1'.setCell hwle _).setCell hwle _).setCell hwle _
        have c0 : w1.cell? ⟨wr.heap.size + 1, 0, none⟩ = some (.string (str [])) := hN1.cell rfl
        have c1 : w1.cell? ⟨wr.heap.size + 1, 1, none⟩ = some (.string (str [])) := hN1.cell rfl
        have c2 : w1.cell? ⟨wr.heap.size + 1, 2, none⟩ = some (.bool false) := hN1.cell rfl
        have f0 := hN1.free 0
        have f1 := hN1.free 1
        have f2 := hN1.free 2
        have d0 : w2.cell? ⟨wr.heap.size, 0, none⟩ = some (.string (str x.p)) := hA2.cell rfl
        have d1 : w2.cell? ⟨wr.heap.size, 1, none⟩ = some (.string (str x.v)) := hA2.cell rfl
        have d2 : w2.cell? ⟨wr.heap.size, 2, none⟩ = some (.bool x.n) := hA2.cell rfl
        have e0 : w2.cell? ⟨wr.heap.size + 1, 0, none⟩ = some (.string (str y.p)) := hN2.cell rfl
        have e1 : w2.cell? ⟨wr.heap.size + 1, 1, none⟩ = some (.string (str y.v)) := hN2.cell rfl
        have e2 : w2.cell? ⟨wr.heap.size + 1, 2, none⟩ = some (.bool y.n) := hN2.cell rfl
        have HB2 := Lib.hid hB2
        clear hA1 hN1 hA2 hN2 hB1 hB1' hB2 hne hwle
        cases htn : tnull x with
        | none =>
          have HS0 : Hid (cmpS (a.drop n) (b.drop n) = (0, false)) := Lib.hid (by rw [HSTT.out, htn])
          clear htn hnx
          go_wp2_with fail
          go_ret2
          exact ⟨by rw [HC.out, HS0.out]; rfl, HB2.out⟩
        | some z =>
          rw [htn] at hnx
          change y = z at hnx
          subst hnx
          have hoy := tnull_ok htn
          obtain ⟨⟨rc, rk⟩, hR⟩ : ∃ r, r = Mv.one x y := ⟨_, rfl⟩
          have HST : Hid (cmpS (a.drop n) (b.drop n) = if rk = false ∨ rc ≠ 0 then (rc, rk) else cmpS (a.drop (n + 1)) (b.drop (n + 1))) := Lib.hid (by
            have h := HSTT.out
            rw [htn] at h
            change _ = (if (Mv.one x y).2 = false ∨ (Mv.one x y).1 ≠ 0 then Mv.one x y else cmpS (a.drop (n + 1)) (b.drop (n + 1))) at h
            rw [← hR] at h; exact h)
          have hox := HOT.out
          have H1 := Lib.hid (show ∀ w, Calls Tryz.prog 48 #[.agg #[.string (str x.p), .string (str x.v), .bool x.n], .agg #[.string (str y.p), .string (str y.v), .bool y.n]] w fun e w' => e = .returned (.tuple #[.int .i64 rc, .bool rk]) ∧ Below w.heap.size w w' from fun w => by have h := one48 x y hox.1 hoy.1 hox.2 hoy.2 w; unfold res2 tagg sv at h; rw [← hR] at h; exact h)
          clear htn hox hoy hR
          go_wp2_with fail
          (with_reducible refine (H1.out _).mono ?_)
          rintro e w5 ⟨rfl, hB5⟩
          have HB5 : Hid (Below wo.heap.size wo w5) := Lib.hid (HB2.out.trans (hB5.mono HB2.out.size))
          clear hB5
          cases rk
          · have HV : Hid (cmpS a b = (rc, false)) := Lib.hid (by rw [HC.out, HST.out]; simp)
            go_wp2_with fail
            go_ret2
            exact ⟨by rw [HV.out]; rfl, HB5.out⟩
          · by_cases hr0 : rc = 0
            · subst hr0
              have HV : Hid (cmpS a b = cmpS (a.drop (n + 1)) (b.drop (n + 1))) := Lib.hid (by rw [HC.out, HST.out]; simp)
              go_wp2_with fail
              go_roundw
              case rel => (exact ⟨_, _, _, _, _, n + 1, rfl, rfl, rfl, rfl, rfl, by go_num, by omega, HV, HB5⟩)
              case measure => simp [intOf]; omega
            · have m1 : (rc != 0) = true := by simpa using hr0
              have HV : Hid (cmpS a b = (rc, true)) := Lib.hid (by rw [HC.out, HST.out]; simp [hr0])
              go_wp2_with fail
              go_ret2
              exact ⟨by rw [HV.out]; rfl, HB5.out⟩
    · by_cases hnb : n < b.length
      · obtain ⟨y, hy⟩ : ∃ y, b[n]? = some y := ⟨_, List.getElem?_eq_getElem hnb⟩
        have hoy := OB.out y (List.mem_of_getElem? hy)
        obtain ⟨gb, cap', hvb, _, _⟩ := World.ownsRow.form HB.out (by omega)
        injection hvb with z1 _ z3
        subst z1 z3
        have hal : ∀ o1 o2 : Obj, Below wr.heap.size wr ((wr.alloc o1).alloc o2) := fun o1 o2 => ((Below.refl _ _).alloc (Nat.le_refl _) _).alloc (by rw [size_alloc]; exact Nat.le_succ _) _
        have htt := fun o1 o2 => tok_at ((HB.out.below HBW.out).below (hal o1 o2)) hy
        have a0 := fun o1 o2 => (htt o1 o2).1
        have a1 := fun o1 o2 => (htt o1 o2).2.1
        have a2 := fun o1 o2 => (htt o1 o2).2.2
        have hst := cmpS_right (Nat.le_of_not_lt hna) hy
        obtain ⟨w8, hw8⟩ : ∃ z, (wr.alloc (Obj.cells #[Value.string ⟨#[]⟩, Value.string ⟨#[]⟩, Value.bool false] 40)).alloc (Obj.cells #[Value.string (str y.p), Value.string (str y.v), Value.bool y.n] 40) = z := ⟨_, rfl⟩
        have h8t : Arr w8 (wr.heap.size + 1) 40 [sv y.p, sv y.v, .bool y.n] := by
          rw [← hw8]
          have h := Arr.new (wr.alloc (Obj.cells #[Value.string ⟨#[]⟩, Value.string ⟨#[]⟩, Value.bool false] 40)) 40 [sv y.p, sv y.v, .bool y.n]; rw [size_alloc] at h; exact h
        have h8n : Arr w8 wr.heap.size 40 [sv [], sv [], .bool false] := by
          rw [← hw8]
          exact (Arr.new wr 40 [sv [], sv [], .bool false]).alloc _
        have hB8 : Below wo.heap.size wo w8 := by rw [← hw8]; exact HBW.out.trans ((hal _ _).mono HBW.out.size)
        have k0 : w8.cell? ⟨wr.heap.size + 1, 0, none⟩ = some (.string (str y.p)) := h8t.cell rfl
        have k1 : w8.cell? ⟨wr.heap.size + 1, 1, none⟩ = some (.string (str y.v)) := h8t.cell rfl
        have k2 : w8.cell? ⟨wr.heap.size + 1, 2, none⟩ = some (.bool y.n) := h8t.cell rfl
        have HT8 := Lib.hid h8t
        have HN8 := Lib.hid h8n
        have HB8 := Lib.hid hB8
        have hnu := fun w => null47 y hoy.1 w
        unfold tagg sv at hnu
        have HNU := Lib.hid hnu
        have HOT := Lib.hid hoy
        have HSTT := Lib.hid hst
        clear htt hal h8t h8n hB8 hnu hy hoy hst
        go_wp2_with fail
        clear hw8 a0 a1 a2 k0 k1 k2
        (with_reducible refine (HNU.out _).mono ?_)
        rintro e w1 ⟨rfl, hB1⟩
        have hA1 := HT8.out.below hB1
        have hN1 := HN8.out.below hB1
        obtain ⟨x, hnx⟩ : ∃ z, z = (tnull y).getD ⟨[], [], false⟩ := ⟨_, rfl⟩
        rw [← hnx]
        obtain ⟨w2, hw2⟩ : ∃ z, ((w1.setCell ⟨wr.heap.size, 0, none⟩ (.string (str x.p))).setCell ⟨wr.heap.size, 1, none⟩ (.string (str x.v))).setCell ⟨wr.heap.size, 2, none⟩ (.bool x.n) = z := ⟨_, rfl⟩
        have hne : wr.heap.size + 1 ≠ wr.heap.size := by omega
        have hA2 : Arr w2 (wr.heap.size + 1) 40 [sv y.p, sv y.v, .bool y.n] := by
          rw [← hw2]
          exact ((hA1.setOther (a := ⟨wr.heap.size, 0, none⟩) hne _).setOther (a := ⟨wr.heap.size, 1, none⟩) hne _).setOther (a := ⟨wr.heap.size, 2, none⟩) hne _
        have hN2 : Arr w2 wr.heap.size 40 [sv x.p, sv x.v, .bool x.n] := by
          rw [← hw2]
          exact ((hN1.set 0 (sv x.p)).set 1 (sv x.v)).set 2 (.bool x.n)
        have hB1' : Below wo.heap.size wo w1 := HB8.out.trans (hB1.mono HB8.out.size)
        have hwle : wo.heap.size ≤ wr.heap.size := by have := HBW.out.size; omega
        have hB2 : Below wo.heap.size wo w2 := by
          rw [← hw2]
          exact ((hB1'.setCell hwle _).setCell hwle _).setCell hwle _
        have c0 : w1.cell? ⟨wr.heap.size, 0, none⟩ = some (.string (str [])) := hN1.cell rfl
        have c1 : w1.cell? ⟨wr.heap.size, 1, none⟩ = some (.string (str [])) := hN1.cell rfl
        have c2 : w1.cell? ⟨wr.heap.size, 2, none⟩ = some (.bool false) := hN1.cell rfl
        have f0 := hN1.free 0
        have f1 := hN1.free 1
        have f2 := hN1.free 2
        have d0 : w2.cell? ⟨wr.heap.size + 1, 0, none⟩ = some (.string (str y.p)) := hA2.cell rfl
        have d1 : w2.cell? ⟨wr.heap.size + 1, 1, none⟩ = some (.string (str y.v)) := hA2.cell rfl
        have d2 : w2.cell? ⟨wr.heap.size + 1, 2, none⟩ = some (.bool y.n) := hA2.cell rfl
        have e0 : w2.cell? ⟨wr.heap.size, 0, none⟩ = some (.string (str x.p)) := hN2.cell rfl
        have e1 : w2.cell? ⟨wr.heap.size, 1, none⟩ = some (.string (str x.v)) := hN2.cell rfl
        have e2 : w2.cell? ⟨wr.heap.size, 2, none⟩ = some (.bool x.n) := hN2.cell rfl
        have HB2 := Lib.hid hB2
        clear hA1 hN1 hA2 hN2 hB1 hB1' hB2 hne hwle
        cases htn : tnull y with
        | none =>
          have HS0 : Hid (cmpS (a.drop n) (b.drop n) = (0, false)) := Lib.hid (by rw [HSTT.out, htn])
          clear htn hnx
          go_wp2_with fail
          go_ret2
          exact ⟨by rw [HC.out, HS0.out]; rfl, HB2.out⟩
        | some z =>
          rw [htn] at hnx
          change x = z at hnx
          subst hnx
          have hox := tnull_ok htn
          obtain ⟨⟨rc, rk⟩, hR⟩ : ∃ r, r = Mv.one x y := ⟨_, rfl⟩
          have HST : Hid (cmpS (a.drop n) (b.drop n) = if rk = false ∨ rc ≠ 0 then (rc, rk) else cmpS (a.drop (n + 1)) (b.drop (n + 1))) := Lib.hid (by
            have h := HSTT.out
            rw [htn] at h
            change _ = (if (Mv.one x y).2 = false ∨ (Mv.one x y).1 ≠ 0 then Mv.one x y else cmpS (a.drop (n + 1)) (b.drop (n + 1))) at h
            rw [← hR] at h; exact h)
          have hoy := HOT.out
          have H1 := Lib.hid (show ∀ w, Calls Tryz.prog 48 #[.agg #[.string (str x.p), .string (str x.v), .bool x.n], .agg #[.string (str y.p), .string (str y.v), .bool y.n]] w fun e w' => e = .returned (.tuple #[.int .i64 rc, .bool rk]) ∧ Below w.heap.size w w' from fun w => by have h := one48 x y hox.1 hoy.1 hox.2 hoy.2 w; unfold res2 tagg sv at h; rw [← hR] at h; exact h)
          clear htn hox hoy hR
          go_wp2_with fail
          (with_reducible refine (H1.out _).mono ?_)
          rintro e w5 ⟨rfl, hB5⟩
          have HB5 : Hid (Below wo.heap.size wo w5) := Lib.hid (HB2.out.trans (hB5.mono HB2.out.size))
          clear hB5
          cases rk
          · have HV : Hid (cmpS a b = (rc, false)) := Lib.hid (by rw [HC.out, HST.out]; simp)
            go_wp2_with fail
            go_ret2
            exact ⟨by rw [HV.out]; rfl, HB5.out⟩
          · by_cases hr0 : rc = 0
            · subst hr0
              have HV : Hid (cmpS a b = cmpS (a.drop (n + 1)) (b.drop (n + 1))) := Lib.hid (by rw [HC.out, HST.out]; simp)
              go_wp2_with fail
              go_roundw
              case rel => (exact ⟨_, _, _, _, _, n + 1, rfl, rfl, rfl, rfl, rfl, by go_num, by omega, HV, HB5⟩)
              case measure => simp [intOf]; omega
            · have m1 : (rc != 0) = true := by simpa using hr0
              have HV : Hid (cmpS a b = (rc, true)) := Lib.hid (by rw [HC.out, HST.out]; simp [hr0])
              go_wp2_with fail
              go_ret2
              exact ⟨by rw [HV.out]; rfl, HB5.out⟩
      · have hend : cmpS a b = (0, true) := by rw [HC.out, List.drop_eq_nil_of_le (by omega), List.drop_eq_nil_of_le (by omega), cmpS]
        have HEND := Lib.hid hend
        clear hend
        go_wp2_with fail
        go_ret2
        exact ⟨by rw [HEND.out]; rfl, HBW.out⟩
end Go.Proofs.Tz
