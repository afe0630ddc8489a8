/- Contracts of a token's lessThan in one, of two versions' equality. -/
import Derived.Test.YtcehboopgjpfcaaGreatDoorF4
import Derived.Test.YtcehboopgjpfcaaGreatDoorLA
namespace Go.Proofs.Tz
open Go.RowKit Mv

theorem qord_some {t : Tok} {x : Nat} (h : qord t = some x) : t.p = [45] ∨ t.p = [46] := by
  unfold qord at h
  by_cases h1 : t.p = [45]
  · exact .inl h1
  · by_cases h2 : t.p = [46]
    · exact .inr h2
    · rw [if_neg (fun h => h1 h.2), if_neg (fun h => h2 h.2), if_neg h1, if_neg h2] at h; cases h

set_option maxHeartbeats 4000000 in
theorem less_diff (g o : Nat) (a b : Tok) (x y : Nat) (w : World) (hE : Env w) (hT : TokAt w g o a) (ha : Vok a.v) (hb : Vok b.v) (hp : a.p ≠ b.p) (hx : qord a = some x) (hy : qord b = some y) :
    Calls Tryz.prog 90 #[.pointer (some ⟨g, o, none⟩), tagg b] w fun e w' => e = .returned (.tuple #[.bool (decide (x < y)), .nilIface]) ∧ Below w.heap.size w w' := by
  obtain ⟨wb, hwb⟩ : ∃ wb, wb = w.alloc (Obj.cells #[Value.string (str b.p), Value.string (str b.v), Value.bool b.n] 84) := ⟨_, rfl⟩
  have hBb : Below w.heap.size w wb := by rw [hwb]; exact (Below.refl _ _).alloc (Nat.le_refl _) _
  have hAb : Arr wb w.heap.size 84 [sv b.p, sv b.v, .bool b.n] := by rw [hwb]; exact Arr.new _ _ _
  have hby := fun w' (h : Below wb.heap.size wb w') => byQual_any g o a b x y w' ((hE.below hBb).below h) ((hT.below hBb).below h) ha hb (qord_some hx) (qord_some hy) hx hy
  have HBY := Lib.hid hby
  have HBb := Lib.hid hBb
  have htl := str_toList
  have m1 : (a.p == b.p) = false := by simp [hp]
  have k0 : wb.cell? ⟨w.heap.size, 0, none⟩ = some (.string (str b.p)) := hAb.cell (j := 0) rfl
  have k1 : wb.cell? ⟨w.heap.size, 1, none⟩ = some (.string (str b.v)) := hAb.cell (j := 1) rfl
  have k2 : wb.cell? ⟨w.heap.size, 2, none⟩ = some (.bool b.n) := hAb.cell (j := 2) rfl
  have c0 : wb.cell? ⟨g, o, none⟩ = some (.string (str a.p)) := cell_keep hBb hT.1
  unfold tagg sv
  clear hby hBb hAb hE hT ha hb hp hx hy
  go_enter Tryz.func90, Tryz.ntmps90
  go_wp2_with fail
  rw [← hwb]
  clear hwb
  go_quiet (fail)
  obtain ⟨w9, hw9⟩ : ∃ x, x = wb.drewN nq := ⟨_, rfl⟩
  have hB9 : Below wb.heap.size wb w9 := by rw [hw9]; exact below_drewN' (Below.refl _ _) _
  have k0 := cell_keep hB9 k0
  have k1 := cell_keep hB9 k1
  have k2 := cell_keep hB9 k2
  have HBY9 := Lib.hid (HBY.out w9 hB9)
  have HB9 := Lib.hid (HBb.out.trans (hB9.mono HBb.out.size))
  rw [← hw9]
  clear hw9 hB9 c0
  unfold tagg sv at HBY9
  go_wp2_with fail
  (with_reducible refine (HBY9.out).mono ?_)
  rintro e z1 ⟨rfl, hB⟩
  have HZ := Lib.hid (HB9.out.trans (hB.mono HB9.out.size))
  clear hB
  go_wp2_with fail
  go_ret2
  exact ⟨rfl, HZ.out⟩

theorem less90 (g o : Nat) (a b : Tok) (r : Bool) (w : World) (hE : Env w) (hK : KwAt w) (hT : TokAt w g o a) (ha : Vok a.v) (hb : Vok b.v) (hr : tless a b = some r) :
    Calls Tryz.prog 90 #[.pointer (some ⟨g, o, none⟩), tagg b] w fun e w' => e = .returned (.tuple #[.bool r, .nilIface]) ∧ Below w.heap.size w w' := by
  by_cases hp : a.p = b.p
  · rcases ha.1 with da | da
    · rcases hb.1 with db | db
      · exact less_tt g o a b r w hE hK hT ha.2 hb.2 hp hr da db
      · cases hn : a.n
        · exact less_tf0 g o a b r w hE hK hT ha.2 hb.2 hp hr da db hn
        · exact less_tf1 g o a b r w hE hK hT ha.2 hb.2 hp hr da db hn
    · rcases hb.1 with db | db
      · cases hn : b.n
        · exact less_ft0 g o a b r w hE hK hT ha.2 hb.2 hp hr da db hn
        · exact less_ft1 g o a b r w hE hK hT ha.2 hb.2 hp hr da db hn
      · exact less_ff g o a b r w hE hK hT ha.2 hb.2 hp hr da db
  · have h := hr
    unfold tless at h
    rw [if_neg hp] at h
    cases hx : qord a with
    | none => rw [hx] at h; cases h
    | some x =>
      cases hy : qord b with
      | none => rw [hx, hy] at h; cases h
      | some y =>
        rw [hx, hy] at h
        injection h with h
        rw [← h]
        exact less_diff g o a b x y w hE hT ha hb hp hx hy

theorem tokAt_of {w : World} {base : Nat} {v : Value} {ts : List Tok} (h : Toks 84 w base v ts) {i : Nat} {t : Tok} (hi : ts[i]? = some t) :
    ∃ g cap, v = .slice (some ⟨g, 0, none⟩) ts.length cap ∧ TokAt w g (i * 3) t := by
  obtain ⟨g, cap, hv, _, _, h1, h2, h3⟩ := toks_at h hi
  exact ⟨g, cap, hv, h1, h2, h3⟩
theorem veq_snoc : ∀ (a b : List Tok) (x y : Tok) (c d : List Tok), a.length = b.length → veq a b = true → veq (a ++ x :: c) (b ++ y :: d) = (teq x y && veq c d)
  | [], [], x, y, c, d, _, _ => rfl
  | [], _ :: _, _, _, _, _, h, _ => by simp at h
  | _ :: _, [], _, _, _, _, h, _ => by simp at h
  | a :: xs, b :: ys, x, y, c, d, hl, h => by
    rw [veq, Bool.and_eq_true] at h
    rw [List.cons_append, List.cons_append, veq, h.1, Bool.true_and]
    exact veq_snoc xs ys x y c d (by simpa using hl) h.2
theorem veq_len {a b : List Tok} (h : veq a b = true) : a.length = b.length := by
  induction a generalizing b with
  | nil => cases b with
    | nil => rfl
    | cons => cases h
  | cons x xs ih => cases b with
    | nil => cases h
    | cons y ys =>
      rw [veq, Bool.and_eq_true] at h
      simp [ih h.2]

set_option maxHeartbeats 4000000 in
set_option maxRecDepth 100000 in
theorem vequal73 (va vb : Value) (a b : List Tok) (ba bb : Nat) (w : World) (hA : Toks 84 w ba va a) (hB : Toks 84 w bb vb b) (la : a.length ≤ 1000000) (_lb : b.length ≤ 1000000) :
    Calls Tryz.prog 73 #[.agg #[va], .agg #[vb]] w fun e w' => e = .returned (.bool (veq a b)) ∧ Below w.heap.size w w' := by
  obtain ⟨aa, ca, rfl⟩ := toks_form hA
  obtain ⟨ab, cb, rfl⟩ := toks_form hB
  obtain ⟨wz, hwz⟩ : ∃ x, x = (w.alloc (Obj.cells #[Value.slice aa a.length ca] 66)).alloc (Obj.cells #[Value.slice ab b.length cb] 66) := ⟨_, rfl⟩
  have hBz : Below w.heap.size w wz := by rw [hwz]; exact ((Below.refl _ _).alloc (Nat.le_refl _) _).alloc (by rw [size_alloc]; omega) _
  have z1 : wz.cell? ⟨w.heap.size, 0, none⟩ = some (.slice aa a.length ca) := by rw [hwz]; exact ((Arr.new w 66 [Value.slice aa a.length ca]).alloc _).cell (j := 0) rfl
  have z2 : wz.cell? ⟨w.heap.size + 1, 0, none⟩ = some (.slice ab b.length cb) := by
    rw [hwz]
    have h := Arr.new (w.alloc (Obj.cells #[Value.slice aa a.length ca] 66)) 66 [Value.slice ab b.length cb]
    rw [size_alloc] at h
    exact h.cell (j := 0) rfl
  have HA := Lib.hid (hA.below hBz)
  have HB := Lib.hid (hB.below hBz)
  have HBz := Lib.hid hBz
  clear hA hB hBz
  by_cases hl : a.length = b.length
  · have m0 : ((a.length : Int) != (b.length : Int)) = false := by simp [hl]
    have HL := Lib.hid hl
    clear hl
    go_enter Tryz.func73, Tryz.ntmps73
    go_wp2_with fail
    rw [← hwz]
    clear hwz
    go_loopw [5, 16] (fun z x wr => ∃ (zv : Value) (i : Nat), zv = z ∧ x = .int .i64 (i : Int) ∧ i ≤ a.length ∧ Hid (veq (a.take i) (b.take i) = true) ∧ Hid (Below wz.heap.size wz wr)) (fun _ x _ => a.length - (intOf x).toNat)
    case atStart => exact ⟨_, 0, rfl, rfl, Nat.zero_le _, Lib.hid (by simp [veq]), Lib.hid (Below.refl _ _)⟩
    case round =>
      obtain ⟨zv, i, rfl, rfl, hi, J, K⟩ := hrel
      by_cases hil : i < a.length
      · obtain ⟨t, ht⟩ : ∃ t, a[i]? = some t := ⟨_, List.getElem?_eq_getElem hil⟩
        obtain ⟨u, hu⟩ : ∃ u, b[i]? = some u := ⟨_, List.getElem?_eq_getElem (by have := HL.out; omega)⟩
        have hiy : (i : Int) < (b.length : Int) := by have := HL.out; omega
        have HTU := Lib.hid (And.intro ht hu)
        clear ht hu
        have hB9 : Below wz.heap.size wz wr := K.out
        obtain ⟨g1, c1', e1, hT1⟩ := tokAt_of (HA.out.below hB9) HTU.out.1
        obtain ⟨g2, c2', e2, hT2⟩ := tokAt_of (HB.out.below hB9) HTU.out.2
        injection e1 with e11 e12 e13
        injection e2 with e21 e22 e23
        subst e11 e21
        have y1 := cell_keep hB9 z1
        have y2 := cell_keep hB9 z2
        have h88 : Calls Tryz.prog 88 #[.pointer (some ⟨g1, i * 3, none⟩), .agg #[.string (str u.p), .string (str u.v), .bool u.n]] wr.drew fun e w' => e = .returned (.bool (teq t u)) ∧ Below wr.drew.heap.size wr.drew w' := equal88 g1 (i * 3) t u wr.drew hT1
        obtain ⟨p0, p1, p2⟩ := hT2
        unfold sv at p0 p1
        have H88 := Lib.hid h88
        have HB9 : Hid (Below wz.heap.size wz wr.drew) := Lib.hid K.out.drew
        clear hB9 hT1 h88 e12 e13 e22 e23
        go_wp2_with fail
        go_still_tail 9, (by kernel_rfl)
        change wpList _ _ _ _ _ wr.drew
        go_wp2_with fail
        (with_reducible refine (H88.out).mono ?_)
        rintro e w10 ⟨rfl, hB10⟩
        have HB10 := Lib.hid (HB9.out.trans (hB10.mono HB9.out.size))
        clear hB10
        by_cases hte : teq t u = true
        · have HN : Hid (veq (a.take (i + 1)) (b.take (i + 1)) = true) := Lib.hid (by
            rw [take_snoc HTU.out.1, take_snoc HTU.out.2, veq_snoc _ _ _ _ _ _ (by rw [List.length_take, List.length_take, HL.out]) J.out, hte]; rfl)
          go_wp2_with fail
          go_roundw
          case rel => exact ⟨_, i + 1, rfl, by go_num, by omega, HN, HB10⟩
          case measure => simp [intOf]; omega
        · have hte : teq t u = false := by simpa using hte
          have hv : veq a b = false := by
            have s1 : a = a.take i ++ t :: a.drop (i + 1) := by
              have h1 := HTU.out.1
              rw [List.getElem?_eq_getElem hil] at h1
              injection h1 with h1
              rw [← h1, ← List.drop_eq_getElem_cons hil, List.take_append_drop]
            have s2 : b = b.take i ++ u :: b.drop (i + 1) := by
              have hlb : i < b.length := by omega
              have h1 := HTU.out.2
              rw [List.getElem?_eq_getElem hlb] at h1
              injection h1 with h1
              rw [← h1, ← List.drop_eq_getElem_cons hlb, List.take_append_drop]
            rw [s1, s2, veq_snoc _ _ _ _ _ _ (by rw [List.length_take, List.length_take, HL.out]) J.out, hte]; rfl
          have HV := Lib.hid hv
          clear hv
          go_wp2_with fail
          go_ret
          exact ⟨by rw [HV.out]; rfl, HBz.out.trans (HB10.out.mono HBz.out.size)⟩
      · have hv : veq a b = true := by
          have h1 := J.out
          rwa [List.take_of_length_le (by omega), List.take_of_length_le (by have := HL.out; omega)] at h1
        have HV := Lib.hid hv
        clear hv
        go_wp2_with fail
        go_ret
        exact ⟨by rw [HV.out]; rfl, HBz.out.trans (K.out.mono HBz.out.size)⟩
  · have m0 : ((a.length : Int) != (b.length : Int)) = true := by simp; omega
    have hv : veq a b = false := by
      cases h : veq a b
      · rfl
      · exact absurd (veq_len h) hl
    have HV := Lib.hid hv
    clear hl hv
    go_enter Tryz.func73, Tryz.ntmps73
    go_wp2_with fail
    rw [← hwz]
    go_ret
    exact ⟨by rw [HV.out]; rfl, HBz.out⟩
end Go.Proofs.Tz
