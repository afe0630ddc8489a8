/- Contracts of nat.cmp and Int.Cmp. -/
import Derived.Test.YtcehboopgjpfcaaGreatDoorEA
import Derived.LaidEqlPtr
namespace Go.Proofs.Mv
theorem val_less {a1 a2 t : List Nat} {x y : Nat} (h1 : Ws a1) (hl : a1.length = a2.length) (h : x < y) : val (a1 ++ x :: t) < val (a2 ++ y :: t) := by
  rw [val_append, val_append, val_cons, val_cons, hl]
  have h2 := val_lt h1
  rw [hl] at h2
  have h3 : WB ^ a2.length * (x + WB * val t) + WB ^ a2.length ≤ WB ^ a2.length * (y + WB * val t) := by
    rw [← Nat.mul_succ]
    exact Nat.mul_le_mul_left _ (by omega)
  omega
theorem val_shorter {a b : List Nat} (ha : Ws a) (hb : Nrm b) (h : a.length < b.length) : val a < val b := by
  have h1 := val_lt ha
  have h2 := val_pos_of_nrm hb (by rintro rfl; simp at h)
  have h3 : WB ^ a.length ≤ WB ^ (b.length - 1) := Nat.pow_le_pow_right WB_pos (by omega)
  omega
theorem split_at {l : List Nat} {i x : Nat} (h : l[i]? = some x) : l = l.take i ++ x :: l.drop (i + 1) := by
  have hl := (List.getElem?_eq_some_iff.1 h).1
  have h1 : l.drop i = x :: l.drop (i + 1) := by
    rw [List.drop_eq_getElem_cons hl]
    rw [List.getElem?_eq_getElem hl] at h
    injection h with h; rw [h]
  rw [← h1, List.take_append_drop]
end Go.Proofs.Mv
namespace Go.Proofs.Tz
open Go.RowKit Mv

theorem natAt_word {w : World} {base : Nat} {v : Value} {ws : List Nat} (h : NatAt w base v ws) {i x : Nat} (hi : ws[i]? = some x) : ∃ b cap, v = .slice (some ⟨b, 0, none⟩) ws.length cap ∧ w.cell? ⟨b, i, none⟩ = some (.int .u64 (x : Int)) := by
  rcases h with ⟨_, rfl⟩ | ⟨b, cap, cs, hv, _, hA, _, _, hs⟩
  · simp at hi
  · refine ⟨b, cap, hv, ?_⟩
    have := hs i x hi
    rw [Nat.zero_add] at this
    exact hA.cell this

/-- Only draws lie between. -/
def Drew (w w' : World) : Prop := ∃ q, w' = w.drewN q
theorem Drew.refl (w : World) : Drew w w := ⟨0, rfl⟩
theorem Drew.more {w a : World} (h : Drew w a) (n : Nat) : Drew w (a.drewN n) := by
  obtain ⟨q, rfl⟩ := h
  exact ⟨q + n, by rw [World.drewN_drewN]⟩
theorem Drew.below {w w' : World} (h : Drew w w') : Below w.heap.size w w' := by
  obtain ⟨q, rfl⟩ := h
  exact below_drewN' (Below.refl _ _) q
set_option maxHeartbeats 4000000 in
theorem natCmp_any (v1 v2 : Value) (xs ys : List Nat) (b1 b2 : Nat) (w : World) (h1 : NatAt w b1 v1 xs) (h2 : NatAt w b2 v2 ys) (hx : Ws xs) (hy : Ws ys) (nx : Nrm xs) (ny : Nrm ys) (l1 : xs.length ≤ 1000000000) (_l2 : ys.length ≤ 1000000000) :
    Calls Tryz.prog 123 #[v1, v2] w fun e w' => e = .returned (.int .i64 (cmpN (val xs) (val ys))) ∧ Drew w w' := by
  obtain ⟨a1, c1, rfl⟩ := h1.form
  obtain ⟨a2, c2, rfl⟩ := h2.form
  have H1 := Lib.hid h1
  have H2 := Lib.hid h2
  have HX := Lib.hid hx
  have HY := Lib.hid hy
  have NX := Lib.hid nx
  have NY := Lib.hid ny
  clear h1 h2 hx hy nx ny
  by_cases hlt : xs.length < ys.length
  · have hv := val_shorter HX.out NY.out hlt
    have hr : cmpN (val xs) (val ys) = -1 := by rw [cmpN, if_pos hv]
    have HR := Lib.hid hr
    have m1 : ((xs.length : Int) != (ys.length : Int)) = true := by simp; omega
    clear hv hr
    go_enter Tryz.func123, Tryz.ntmps123
    go_wp2_with fail
    go_ret
    exact ⟨by rw [HR.out]; rfl, Drew.refl _⟩
  · by_cases hgt : ys.length < xs.length
    · have hv := val_shorter HY.out NX.out hgt
      have hr : cmpN (val xs) (val ys) = 1 := by rw [cmpN, if_neg (by omega), if_pos hv]
      have HR := Lib.hid hr
      have m1 : ((xs.length : Int) != (ys.length : Int)) = true := by simp; omega
      clear hv hr
      go_enter Tryz.func123, Tryz.ntmps123
      go_wp2_with fail
      go_ret
      exact ⟨by rw [HR.out]; rfl, Drew.refl _⟩
    · have hle : xs.length = ys.length := by omega
      have HL := Lib.hid hle
      have m1 : ((xs.length : Int) != (ys.length : Int)) = false := by simp [hle]
      by_cases h0 : xs.length = 0
      · have hr : cmpN (val xs) (val ys) = 0 := by
          have e1 : xs = [] := List.eq_nil_of_length_eq_zero h0
          have e2 : ys = [] := List.eq_nil_of_length_eq_zero (by omega)
          rw [e1, e2]; rfl
        have HR := Lib.hid hr
        have m2 : ((xs.length : Int) == 0) = true := by rw [h0]; rfl
        have HZ := Lib.hid h0
        clear hr hle h0
        go_enter Tryz.func123, Tryz.ntmps123
        go_wp2_with fail
        go_ret
        exact ⟨by rw [HR.out]; rfl, Drew.refl _⟩
      · have m2 : ((xs.length : Int) == 0) = false := beq_eq_false_iff_ne.2 (by omega)
        have hpos : 0 < xs.length := by omega
        clear hle h0
        go_enter Tryz.func123, Tryz.ntmps123
        go_wp2_with fail
        obtain ⟨wo, rfl⟩ : ∃ wo : World, wo = w := ⟨_, rfl⟩
        go_loopw [7] (fun x wr => ∃ i : Nat, x = .int .i64 (i : Int) ∧ i < xs.length ∧ Hid (xs.drop (i + 1) = ys.drop (i + 1)) ∧ Hid (∃ n, wr = wo.drewN n)) (fun x _ => (intOf x).toNat)
        case atStart => exact ⟨xs.length - 1, by congr 1; omega, by omega, Lib.hid (by rw [List.drop_of_length_le (by omega), List.drop_of_length_le (by have := HL.out; omega)]), Lib.hid ⟨0, rfl⟩⟩
        case round =>
          obtain ⟨i, rfl, hi, J, K⟩ := hrel
          obtain ⟨n, rfl⟩ := K.out
          obtain ⟨x, hx⟩ : ∃ x, xs[i]? = some x := ⟨_, List.getElem?_eq_getElem hi⟩
          obtain ⟨y, hy⟩ : ∃ y, ys[i]? = some y := ⟨_, List.getElem?_eq_getElem (by have := HL.out; omega)⟩
          obtain ⟨g1, k1, e1, d1⟩ := natAt_word H1.out hx
          obtain ⟨g2, k2, e2, d2⟩ := natAt_word H2.out hy
          injection e1 with e11 e12 e13
          injection e2 with e21 e22 e23
          subst e11 e21
          have hiy : (i : Int) < (ys.length : Int) := by have := HL.out; omega
          have HXY := Lib.hid (And.intro hx hy)
          clear hx hy e12 e13 e22 e23
          have fin : ∀ (r : Int), r = cmpN x y → cmpN x y ≠ 0 ∨ i = 0 → r = cmpN (val xs) (val ys) := by
            intro r hr hc
            have s1 := split_at HXY.out.1
            have s2 := split_at HXY.out.2
            have hll : (xs.take i).length = (ys.take i).length := by rw [List.length_take, List.length_take, HL.out]
            rw [← J.out] at s2
            rcases cmpN_mem x y with ⟨h, h'⟩ | ⟨h, h'⟩ | ⟨h, h'⟩
            · have := val_less (t := xs.drop (i + 1)) (fun z hz => HX.out z (List.mem_of_mem_take hz)) hll h'
              rw [← s1, ← s2] at this
              rw [hr, h, cmpN, if_pos this]
            · rcases hc with hc | hc
              · exact absurd h hc
              · subst hc
                rw [hr, h]
                have : xs = ys := by rw [s1, s2, h']; simp
                rw [this, cmpN, if_neg (by omega), if_neg (by omega)]
            · have := val_less (t := xs.drop (i + 1)) (fun z hz => HY.out z (List.mem_of_mem_take hz)) hll.symm h'
              rw [← s1, ← s2] at this
              rw [hr, h, cmpN, if_neg (by omega), if_pos this]
          have FIN := Lib.hid fin
          clear fin
          by_cases hgo : 0 < i ∧ x = y
          · obtain ⟨hi0, hxy⟩ := hgo
            have b1 : decide (0 < i) = true := by simp; omega
            have b2 : (x == y) = true := by simp [hxy]
            have HN : Hid (xs.drop (i - 1 + 1) = ys.drop (i - 1 + 1)) := Lib.hid (by
              rw [show i - 1 + 1 = i by omega]
              have s1 := List.drop_eq_getElem_cons hi
              have s2 := List.drop_eq_getElem_cons (show i < ys.length by omega)
              have t1 := HXY.out.1
              have t2 := HXY.out.2
              rw [List.getElem?_eq_getElem hi] at t1
              rw [List.getElem?_eq_getElem (show i < ys.length by omega)] at t2
              injection t1 with t1; injection t2 with t2
              rw [s1, s2, t1, t2, hxy, J.out])
            have hsub : IntKind.i64.wrap ((i : Int) - 1) = ((i - 1 : Nat) : Int) := by rw [IntWalk.i64_in _ (by omega)]; omega
            clear hxy
            go_wp2_with fail
            go_quiet (fail)
            go_wp2_with fail
            go_roundw
            case rel => exact ⟨i - 1, by congr 1, by omega, HN, Lib.hid ⟨n + nq, rfl⟩⟩
            case measure => simp only [intOf]; omega
          · by_cases hi0 : i = 0
            · rcases Nat.lt_trichotomy x y with hc | hc | hc
              · skip
                have b1 : decide (0 < i) = false := by simp; omega
                have b3 : decide (x < y) = true := by simp; omega
                have hr : (-1 : Int) = cmpN (val xs) (val ys) := FIN.out _ (by rw [cmpN, if_pos hc]) (.inr hi0)
                have HR := Lib.hid hr
                clear hr hc hi0 hgo
                go_wp2_with fail
                go_quiet (fail)
                go_wp2_with fail
                go_quiet (fail)
                go_wp2_with fail
                go_ret
                exact ⟨by rw [← HR.out]; rfl, by (repeat apply Drew.more); exact Drew.refl _⟩
              · skip
                have b1 : decide (0 < i) = false := by simp; omega
                have b3 : decide (x < y) = false := by simp; omega
                have b4 : decide (y < x) = false := by simp; omega
                have hr : (0 : Int) = cmpN (val xs) (val ys) := FIN.out _ (by rw [cmpN, if_neg (by omega), if_neg (by omega)]) (.inr hi0)
                have HR := Lib.hid hr
                clear hr hc hi0 hgo
                go_wp2_with fail
                go_quiet (fail)
                go_wp2_with fail
                go_quiet (fail)
                go_wp2_with fail
                go_quiet (fail)
                go_wp2_with fail
                go_ret
                exact ⟨by rw [← HR.out]; rfl, by (repeat apply Drew.more); exact Drew.refl _⟩
              · have hc : y < x := hc
                have b1 : decide (0 < i) = false := by simp; omega
                have b3 : decide (x < y) = false := by simp; omega
                have b4 : decide (y < x) = true := by simp; omega
                have hr : (1 : Int) = cmpN (val xs) (val ys) := FIN.out _ (by rw [cmpN, if_neg (by omega), if_pos hc]) (.inr hi0)
                have HR := Lib.hid hr
                clear hr hc hi0 hgo
                go_wp2_with fail
                go_quiet (fail)
                go_wp2_with fail
                go_quiet (fail)
                go_wp2_with fail
                go_quiet (fail)
                go_wp2_with fail
                go_ret
                exact ⟨by rw [← HR.out]; rfl, by (repeat apply Drew.more); exact Drew.refl _⟩
            · rcases Nat.lt_trichotomy x y with hc | hc | hc
              · skip
                have b1 : decide (0 < i) = true := by simp; omega
                have b2 : (x == y) = false := by simp; omega
                have b3 : decide (x < y) = true := by simp; omega
                have hr : (-1 : Int) = cmpN (val xs) (val ys) := FIN.out _ (by rw [cmpN, if_pos hc]) (.inl (by rw [cmpN, if_pos hc]; decide))
                have HR := Lib.hid hr
                clear hr hc hi0 hgo
                go_wp2_with fail
                go_quiet (fail)
                go_wp2_with fail
                go_quiet (fail)
                go_wp2_with fail
                go_ret
                exact ⟨by rw [← HR.out]; rfl, by (repeat apply Drew.more); exact Drew.refl _⟩
              · exact absurd ⟨by omega, hc⟩ hgo
              · have hc : y < x := hc
                have b1 : decide (0 < i) = true := by simp; omega
                have b2 : (x == y) = false := by simp; omega
                have b3 : decide (x < y) = false := by simp; omega
                have b4 : decide (y < x) = true := by simp; omega
                have hr : (1 : Int) = cmpN (val xs) (val ys) := FIN.out _ (by rw [cmpN, if_neg (by omega), if_pos hc]) (.inl (by rw [cmpN, if_neg (by omega), if_pos hc]; decide))
                have HR := Lib.hid hr
                clear hr hc hi0 hgo
                go_wp2_with fail
                go_quiet (fail)
                go_wp2_with fail
                go_quiet (fail)
                go_wp2_with fail
                go_quiet (fail)
                go_wp2_with fail
                go_ret
                exact ⟨by rw [← HR.out]; rfl, by (repeat apply Drew.more); exact Drew.refl _⟩

theorem info120 : ∃ j, Tryz.prog.info? 120 = some j ∧ j.size ≠ 0 := by
  have h : (Tryz.prog.info? 120).map (fun i => i.size) = some 2 := by kernel_rfl
  obtain ⟨i, hi, hs⟩ := Option.map_eq_some_iff.1 h
  exact ⟨i, hi, by rw [hs]; decide⟩
set_option maxHeartbeats 2000000 in
set_option maxRecDepth 100000 in
theorem intCmp_any (p1 p2 : Nat) (xs ys : List Nat) (b1 b2 : Nat) (w : World) (h1 : IntAt w b1 p1 xs) (h2 : IntAt w b2 p2 ys) (hne : p1 ≠ p2) (hx : Ws xs) (hy : Ws ys) (nx : Nrm xs) (ny : Nrm ys) (l1 : xs.length ≤ 1000000000) (l2 : ys.length ≤ 1000000000) :
    Calls Tryz.prog 103 #[.pointer (some ⟨p1, 0, none⟩), .pointer (some ⟨p2, 0, none⟩)] w fun e w' => e = .returned (.int .i64 (cmpN (val xs) (val ys))) ∧ Below w.heap.size w w' := by
  obtain ⟨v1, hA1, hN1, _⟩ := h1
  obtain ⟨v2, hA2, hN2, _⟩ := h2
  have c1 := hA1.cell (j := 0) rfl
  have c2 := hA2.cell (j := 0) rfl
  have d1 := hA1.cell (j := 1) rfl
  have d2 := hA2.cell (j := 1) rfl
  have hcmp := fun (n : Nat) => natCmp_any v1 v2 xs ys b1 b2 (w.drewN n) hN1 hN2 hx hy nx ny l1 l2
  have HC := Lib.hid hcmp
  obtain ⟨a1, k1, rfl⟩ := hN1.form
  obtain ⟨a2, k2, rfl⟩ := hN2.form
  obtain ⟨j, hj, hjs⟩ := info120
  have hpe := run_eql_ptr_other w Tryz.underlying97 hj hjs (a := ⟨p1, 0, none⟩) (b := ⟨p2, 0, none⟩) (by intro e; injection e with e; exact hne e) hA1 hA2
  have hfe : (false == false) = true := rfl
  clear hcmp hA1 hA2 hN1 hN2 hx hy nx ny hj
  go_enter Tryz.func103, Tryz.ntmps103
  go_wp2_with fail
  go_quiet (fail)
  obtain ⟨w9, hw9⟩ : ∃ x, x = w.drewN nq := ⟨_, rfl⟩
  have c19 : w9.cell? ⟨p1, 0, none⟩ = some (.bool false) := by rw [hw9]; exact c1
  have d19 : w9.cell? ⟨p1, 1, none⟩ = some (.slice a1 xs.length k1) := by rw [hw9]; exact d1
  have d29 : w9.cell? ⟨p2, 1, none⟩ = some (.slice a2 ys.length k2) := by rw [hw9]; exact d2
  have HC9 : Hid (∀ n, Calls Tryz.prog 123 #[.slice a1 xs.length k1, .slice a2 ys.length k2] (w9.drewN n) fun e w' => e = .returned (.int .i64 (cmpN (val xs) (val ys))) ∧ ∃ m, w' = (w9.drewN n).drewN m) := Lib.hid (fun n => by rw [hw9, World.drewN_drewN]; exact HC.out (nq + n))
  have HW9 : Hid (Below w.heap.size w w9) := Lib.hid (by rw [hw9]; exact below_drewN' (Below.refl _ _) _)
  rw [← hw9]
  clear hw9 c1 c2 d1 d2
  go_wp2_with fail
  go_quiet ((go_at_call 123; exact Calls.quiet_of (HC9.out _)))
  go_wp2_with fail
  go_ret
  exact ⟨rfl, below_drewN' HW9.out _⟩
end Go.Proofs.Tz
