/- The walk of FnMavenNumbers. -/
import Derived.Test.YtcehboopgjpfcaaGreatDoorF9
import Derived.Test.YtcehboopgjpfcaaGreatDoorV3
import Derived.Test.YtcehboopgjpfcaaGreatDoorN1
import Derived.Test.YtcehboopgjpfcaaGreatDoorN3
namespace Go.Proofs.Mv
theorem cmpL_head (a b : List Nat) (h : a ≠ [] ∨ b ≠ []) : cmpL a b = if cmpN (a.headD 0) (b.headD 0) = 0 then cmpL a.tail b.tail else cmpN (a.headD 0) (b.headD 0) := by
  have hz : ∀ n, cmpN 0 n = 0 ↔ n = 0 := fun n => by
    unfold cmpN
    by_cases h : n = 0
    · subst h; simp
    · rw [if_pos (by omega)]; simp [h]
  match a, b, h with
  | [], [], h => simp at h
  | [], y :: ys, _ =>
    rw [cmpL]
    by_cases h0 : y = 0
    · subst h0; simp [cmpN]
    · rw [if_neg h0]; show -1 = if cmpN 0 y = 0 then _ else cmpN 0 y
      rw [if_neg (fun e => h0 ((hz y).1 e)), cmpN, if_pos (by omega)]
  | x :: xs, [], _ =>
    rw [cmpL]
    by_cases h0 : x = 0
    · subst h0; simp [cmpN]
    · have e : cmpN x 0 = 1 := by rw [cmpN, if_neg (by omega), if_pos (by omega)]
      rw [if_neg h0]; show 1 = if cmpN x 0 = 0 then _ else cmpN x 0
      rw [e]; rfl
  | x :: xs, y :: ys, _ =>
    rw [cmpL]
    show _ = if cmpN x y = 0 then cmpL xs ys else cmpN x y
    unfold cmpN
    by_cases h1 : x < y
    · rw [if_pos h1, if_pos h1]; rfl
    · rw [if_neg h1, if_neg h1]
      by_cases h2 : y < x
      · rw [if_pos h2, if_pos h2]; rfl
      · rw [if_neg h2, if_neg h2]; rfl
theorem headD_drop (a : List Nat) (i : Nat) : (a.drop i).headD 0 = a.getD i 0 := by
  rw [List.headD_eq_head?_getD, List.head?_drop, List.getD_eq_getElem?_getD]
theorem cmpL_step (a b : List Nat) (i : Nat) (h : i < a.length ∨ i < b.length) :
    cmpL (a.drop i) (b.drop i) = if cmpN (a.getD i 0) (b.getD i 0) = 0 then cmpL (a.drop (i + 1)) (b.drop (i + 1)) else cmpN (a.getD i 0) (b.getD i 0) := by
  have h2 : a.drop i ≠ [] ∨ b.drop i ≠ [] := by
    rcases h with h | h
    · left; intro e; have := congrArg List.length e; simp at this; omega
    · right; intro e; have := congrArg List.length e; simp at this; omega
  rw [cmpL_head _ _ h2, headD_drop, headD_drop, List.tail_drop, List.tail_drop]
theorem allDig_dec' (n : Nat) : allDig (dec n) = true := allDig_dec n
theorem dec_zero' : dec 0 = [48] := by rw [dec_lt (by decide)]; rfl
/-- What the statement's text must be. -/
theorem num_txt {V : Nat} (hV : 0 < V) {ns : List Nat} (h0 : ns ≠ []) (hn : ∀ n ∈ ns, n < V) (hl : (numTxt ns).length ≤ 1200) : Runs V (numTxt ns) ∧ Asc (numTxt ns) ∧ (numTxt ns).length ≤ 100000 := by
  have := (tail_nil hV).core h0 hn hl
  rwa [List.append_nil] at this
end Go.Proofs.Mv
namespace Go.Proofs.Tz
open Go.RowKit Mv

theorem nums_at {w : World} {base : Nat} {v : Value} {ns : List Nat} (h : Strs w base v (ns.map dec)) {i : Nat} (hi : i < ns.length) : ∃ g cap, v = .slice (some ⟨g, 0, none⟩) ns.length cap ∧ w.cell? ⟨g, i, none⟩ = some (.string (str (dec (ns.getD i 0)))) := by
  obtain ⟨g, cap, hv, _, _⟩ := World.ownsRow.form h (by rw [List.length_map]; omega)
  rw [List.length_map] at hv
  refine ⟨g, cap, hv, ?_⟩
  subst hv
  have h2 := h
  unfold Strs at h2
  rw [List.length_map] at h2
  rw [h2.cellAt i (by omega), svs, List.getElem?_map, List.getElem?_map, List.getElem?_eq_getElem hi, List.getD_eq_getElem?_getD, List.getElem?_eq_getElem hi]; rfl

set_option maxHeartbeats 16000000 in
set_option maxRecDepth 100000 in
theorem numbers_walk (K : Nat) (hK : 1 ≤ K) (HI : ItoaSaid K) (a b : Bs) (w : World) (hE : EnvL w) (hKw : KwAt w) (ha : a.length ≤ 9223372036854775807) (hb : b.length ≤ 9223372036854775807) :
    Calls Tryz.prog 8 #[.string (str a), .string (str b)] w fun e w' => e = .returned (.bool true) ∧ Below w.heap.size w w' := by
  have hss := str_size
  by_cases g1 : a.length ≤ 2147483647
  · by_cases g2 : b.length ≤ 2147483647
    · have HE := Lib.hid hE
      have HKw := Lib.hid hKw
      have HHI := Lib.hid HI
      clear hE hKw HI
      obtain ⟨wa, hwa⟩ : ∃ x, x = w.alloc (Obj.cells #[Value.string (str a), Value.string (str b)] 9) := ⟨_, rfl⟩
      have hB0 : Below w.heap.size w wa := by rw [hwa]; exact (Below.refl _ _).alloc (Nat.le_refl _) _
      have HB0 := Lib.hid hB0
      have hrs : RowS wa (some ⟨w.heap.size, 0, none⟩) [a, b] := by
        have hA : Arr wa w.heap.size 9 [.string (str a), .string (str b)] := by rw [hwa]; exact Arr.new _ _ _
        intro i s hi
        match i with
        | 0 => injection hi with hi; subst hi; exact ⟨_, 0, rfl, hA.cell (j := 0) rfl⟩
        | 1 => injection hi with hi; subst hi; exact ⟨_, 0, rfl, hA.cell (j := 1) rfl⟩
        | i + 2 => simp at hi
      have hsh : Calls Tryz.prog 17 #[.slice (some ⟨w.heap.size, 0, none⟩) 2 2] wa fun e w' => e = .returned (.bool (shortB [a, b])) ∧ wa = w' :=
        short_any (some ⟨w.heap.size, 0, none⟩) 2 [a, b] (by simp) _ hrs
      have HSH := Lib.hid hsh
      clear hB0 hrs hsh
      go_enter Tryz.func8, Tryz.ntmps8
      go_wp2_with fail
      rw [← hwa]
      clear hwa
      (with_reducible refine (HSH.out).mono ?_)
      rintro e w1 ⟨rfl, rfl⟩
      by_cases hs : shortB [a, b] = true
      · have hs2 : a.length ≤ 1200 ∧ b.length ≤ 1200 := by
          simp only [shortB, Bool.and_eq_true, List.all_eq_true, decide_eq_true_eq] at hs
          exact ⟨hs.1 a (by simp), hs.1 b (by simp)⟩
        obtain ⟨hs3, hs4⟩ := hs2
        go_wp2_with fail
        have hnb : Calls Tryz.prog 23 #[.string (str a), .int .i64 12] wa (NumbPost a 12 wa) := numbered_any a (by omega) 12 (by decide) _
        (with_reducible refine hnb.mono ?_)
        rintro e w1 ⟨t1, rfl, ht1, rfl⟩
        clear hnb
        cases t1
        · clear ht1
          go_wp2_with fail
          go_ret
          exact ⟨rfl, HB0.out⟩
        · have HN1 := Lib.hid (ht1 rfl)
          clear ht1
          go_wp2_with fail
          have hnb : Calls Tryz.prog 23 #[.string (str b), .int .i64 12] wa (NumbPost b 12 wa) := numbered_any b (by omega) 12 (by decide) _
          (with_reducible refine hnb.mono ?_)
          rintro e w1 ⟨t1, rfl, ht1, rfl⟩
          clear hnb
          cases t1
          · clear ht1
            go_wp2_with fail
            go_ret
            exact ⟨rfl, HB0.out⟩
          · have HN2 := Lib.hid (ht1 rfl)
            clear ht1
            obtain ⟨ns, hns, hna, hnl, hn15⟩ := HN1.out
            obtain ⟨ms, hms, hmb, hml, hm15⟩ := HN2.out
            have hpa := points29 a (by omega) wa
            rw [hna, pts_num ns hns, ← hna] at hpa
            have HPA := Lib.hid hpa
            have hpb := fun w => points29 b (by omega) w
            rw [hmb, pts_num ms hms, ← hmb] at hpb
            have HPB := Lib.hid hpb
            clear hpa hpb
            have hV0 : 0 < WB ^ K := Nat.pow_pos WB_pos
            have c1 := num_txt hV0 hns (fun m hm => big15 hK (hn15 m hm)) (by rw [← hna]; exact hs3)
            have c2 := num_txt hV0 hms (fun m hm => big15 hK (hm15 m hm)) (by rw [← hmb]; exact hs4)
            rw [← hna] at c1
            rw [← hmb] at c2
            have hct : ∀ w' : World, Below w.heap.size w w' → Calls Tryz.prog 28 #[.string (str a), .string (str b)] w' fun e w'' => e = .returned (.tuple #[.int .i64 (cmpL ns ms), .bool true]) ∧ Below w'.heap.size w' w'' := fun w' hbw => by
              refine mctext28 K HHI.out _ _ (cmpL ns ms) w' (HE.out.below hbw) (HKw.out.below hbw) ⟨c1.2.2, c1.2.1, nums_runs (Nat.pow_pos WB_pos) c1.1⟩ ⟨c2.2.2, c2.2.1, nums_runs (Nat.pow_pos WB_pos) c2.1⟩ ?_
              rw [hna, hmb, mv_num hns, mv_num hms]
              exact vcmp_num hns hms
            have HCT := Lib.hid hct
            clear hct c1 c2 HHI HE HKw hV0 hna hmb HN1 HN2
            have hdl : ∀ (l : List Nat) i, (∀ n ∈ l, n < 10 ^ 15) → (dec (l.getD i 0)).length ≤ 1000000 := fun l i hl => by
              have : l.getD i 0 < 10 ^ 15 := by
                rw [List.getD_eq_getElem?_getD]
                cases e : l[i]? with
                | none => decide
                | some x => exact hl x (List.mem_of_getElem? e)
              have := dec_len_pow 14 _ this
              omega
            have h31 : ∀ (l : List Nat) i, (∀ n ∈ l, n < 10 ^ 15) → ∀ w' : World, Calls Tryz.prog 31 #[.string (str (dec (l.getD i 0)))] w' fun e w'' => e = .returned (.agg #[.bool false, .string (str (bytesOf (dec (l.getD i 0))))]) ∧ Below w'.heap.size w' w'' :=
              fun l i hl w' => number31 _ (allDig_dec _) (hdl l i hl) w'
            have H31A := Lib.hid (fun i => h31 ns i hn15)
            have H31B := Lib.hid (fun i => h31 ms i hm15)
            have HDL := Lib.hid hdl
            have H15A := Lib.hid hn15
            have H15B := Lib.hid hm15
            clear h31 hdl hn15 hm15
            go_wp2_with fail
            (with_reducible refine (HPA.out).mono ?_)
            rintro e w1 ⟨v1, rfl, hT1, hB1⟩
            obtain ⟨ax, cx, hvx⟩ : ∃ a c, v1 = .slice a ns.length c := by
              rcases hT1.2 with ⟨h, h0⟩ | ⟨g, cap, cur, h, _⟩
              · rw [List.length_map] at h0; exact ⟨none, 0, by rw [h, h0]⟩
              · rw [List.length_map] at h; exact ⟨_, _, h⟩
            subst hvx
            have HT1 := Lib.hid hT1
            have HB1 := Lib.hid (HB0.out.trans (hB1.mono HB0.out.size))
            clear hT1 hB1
            go_wp2_with fail
            (with_reducible refine (HPB.out _).mono ?_)
            rintro e w2 ⟨v2, rfl, hT2, hB2⟩
            obtain ⟨ay, cy, hvy⟩ : ∃ a c, v2 = .slice a ms.length c := by
              rcases hT2.2 with ⟨h, h0⟩ | ⟨g, cap, cur, h, _⟩
              · rw [List.length_map] at h0; exact ⟨none, 0, by rw [h, h0]⟩
              · rw [List.length_map] at h; exact ⟨_, _, h⟩
            subst hvy
            have HT2 := Lib.hid hT2
            have HT1 := Lib.hid (HT1.out.below hB2)
            have HB2 := Lib.hid (HB1.out.trans (hB2.mono HB1.out.size))
            clear hT2 hB2 HPA HPB
            go_wp2_with fail
            obtain ⟨wo, rfl⟩ : ∃ wo : World, wo = w2 := ⟨_, rfl⟩
            go_loopw [7, 8, 9, 10] (fun x y z t wr => ∃ (zv tv : Value) (c : Int) (i : Nat), zv = z ∧ tv = t ∧ x = .int .i64 c ∧ y = .int .i64 (i : Int) ∧ i ≤ 12 ∧ ((c = 0 ∧ Hid (cmpL ns ms = cmpL (ns.drop i) (ms.drop i))) ∨ (c ≠ 0 ∧ Hid (cmpL ns ms = c))) ∧ Hid (Below wo.heap.size wo wr)) (fun _ y _ _ _ => 12 - (intOf y).toNat)
            case atStart => exact ⟨_, _, 0, 0, rfl, rfl, rfl, rfl, by decide, .inl ⟨rfl, Lib.hid rfl⟩, Lib.hid (Below.refl _ _)⟩
            case round =>
              obtain ⟨zv, tv, c, i, rfl, rfl, rfl, rfl, hi12, hc, HB⟩ := hrel
              have HBR := Lib.hid (HB2.out.trans (HB.out.mono HB2.out.size))
              by_cases hgo : c = 0 ∧ (i < ns.length ∨ i < ms.length)
              · obtain ⟨rfl, hlen⟩ := hgo
                have hcm : cmpL ns ms = cmpL (ns.drop i) (ms.drop i) := by
                  rcases hc with h | h
                  · exact h.2.out
                  · exact absurd rfl h.1
                rw [cmpL_step ns ms i hlen] at hcm
                have hx := bytes_cmp (a := dec (ns.getD i 0)) (b := dec (ms.getD i 0)) (dec_dig _) (dec_dig _)
                rw [dval_dec, dval_dec] at hx
                have tx := (bytesOf_props (dec_dig (ns.getD i 0))).2
                have ty := (bytesOf_props (dec_dig (ms.getD i 0))).2
                have tx2 := HDL.out ns i H15A.out
                have ty2 := HDL.out ms i H15B.out
                have H1 := H31A.out i
                have H2 := H31B.out i
                obtain ⟨X, hX⟩ : ∃ x, x = ns.getD i 0 := ⟨_, rfl⟩
                obtain ⟨Y, hY⟩ : ∃ x, x = ms.getD i 0 := ⟨_, rfl⟩
                rw [← hX] at hx tx tx2 H1 hcm
                rw [← hY] at hx ty ty2 H2 hcm
                obtain ⟨bx, hbx⟩ : ∃ x, x = bytesOf (dec X) := ⟨_, rfl⟩
                obtain ⟨bY, hbY⟩ : ∃ x, x = bytesOf (dec Y) := ⟨_, rfl⟩
                rw [← hbx] at hx tx H1
                rw [← hbY] at hx ty H2
                have H1 := Lib.hid H1
                have H2 := Lib.hid H2
                have HX := Lib.hid hx
                have TX : Hid (Tidy bx ∧ bx.length ≤ 1000000) := Lib.hid ⟨tx.1, by have := tx.2; omega⟩
                have TY : Hid (Tidy bY ∧ bY.length ≤ 1000000) := Lib.hid ⟨ty.1, by have := ty.2; omega⟩
                have hdis : (cmpN X Y = 0 ∧ Hid (cmpL ns ms = cmpL (ns.drop (i + 1)) (ms.drop (i + 1)))) ∨ (cmpN X Y ≠ 0 ∧ Hid (cmpL ns ms = cmpN X Y)) := by
                  by_cases hd : cmpN X Y = 0
                  · exact .inl ⟨hd, Lib.hid (by rw [hcm, if_pos hd])⟩
                  · exact .inr ⟨hd, Lib.hid (by rw [hcm, if_neg hd])⟩
                have HDIS := Lib.hid hdis
                have HXX := Lib.hid hX
                have HYY := Lib.hid hY
                clear hX hY hc hcm hdis hx tx ty tx2 ty2 hbx hbY
                by_cases h1 : i < ns.length
                · obtain ⟨g, cap, hv, hcell⟩ := nums_at (HT1.out.below HB.out) h1
                  rw [← HXX.out] at hcell
                  injection hv with e1 _ e2
                  subst e1 e2
                  by_cases h2 : i < ms.length
                  · obtain ⟨g', cap', hv, hcell'⟩ := nums_at (HT2.out.below HB.out) h2
                    rw [← HYY.out] at hcell'
                    injection hv with e1 _ e2
                    subst e1 e2
                    go_wp2_with fail
                    (with_reducible refine (H1.out _).mono ?_)
                    rintro e wA ⟨rfl, hBA⟩
                    obtain ⟨wB, hwB⟩ : ∃ x, wA.alloc (Obj.cells #[Value.bool false, Value.string (str bx)] 50) = x := ⟨_, rfl⟩
                    have AB : Arr wB wA.heap.size 50 [.bool false, .string (str bx)] := by rw [← hwB]; exact Arr.new _ _ _
                    have hb1 : Below wo.heap.size wo wA := HB.out.trans (hBA.mono HB.out.size)
                    have hb2 : Below wo.heap.size wo wB := by rw [← hwB]; exact hb1.alloc hb1.size _
                    have HAB := Lib.hid AB
                    have HBB := Lib.hid hb2
                    clear AB hb1 hb2 hBA
                    go_wp2_with fail
                    clear hwB
                    (with_reducible refine (H2.out _).mono ?_)
                    rintro e wC ⟨rfl, hBC⟩
                    obtain ⟨wD, hwD⟩ : ∃ x, wC.alloc (Obj.cells #[Value.bool false, Value.string (str bY)] 50) = x := ⟨_, rfl⟩
                    have AD : Arr wD wC.heap.size 50 [.bool false, .string (str bY)] := by rw [← hwD]; exact Arr.new _ _ _
                    have AE : Arr wD wA.heap.size 50 [.bool false, .string (str bx)] := by rw [← hwD]; exact (HAB.out.below hBC).alloc _
                    have hb1 : Below wo.heap.size wo wC := HBB.out.trans (hBC.mono HBB.out.size)
                    have hb2 : Below wo.heap.size wo wD := by rw [← hwD]; exact hb1.alloc hb1.size _
                    have H30 := Lib.hid (compareNumbers30 bx bY TX.out.1 TY.out.1 TX.out.2 TY.out.2 wA.heap.size wC.heap.size 1 1 wD (AE.cell rfl) (AE.cell rfl) (AD.cell rfl) (AD.cell rfl))
                    have HBD := Lib.hid hb2
                    clear AD AE hb1 hb2 hBC
                    go_wp2_with fail
                    clear hwD
                    (with_reducible refine (H30.out).mono ?_)
                    rintro e wE ⟨rfl, hBE⟩
                    rw [HX.out]
                    have HBE := Lib.hid (HBD.out.trans (hBE.mono HBD.out.size))
                    clear hBE
                    go_wp2_with fail
                    go_roundw
                    case rel => exact ⟨_, _, _, i + 1, rfl, rfl, rfl, by go_num, by omega, HDIS.out, HBE⟩
                    case measure => simp [intOf]; omega
                  · have H2 := Lib.hid (show ∀ w' : World, Calls Tryz.prog 31 #[.string ⟨#[48]⟩] w' fun e w'' => e = .returned (.agg #[.bool false, .string (str bY)]) ∧ Below w'.heap.size w' w'' from fun w' => by
                      have h := H2.out w'
                      rw [show Y = 0 by rw [HYY.out, List.getD_eq_getElem?_getD, List.getElem?_eq_none (by omega)]; rfl, dec_zero'] at h
                      exact h)
                    go_wp2_with fail
                    (with_reducible refine (H1.out _).mono ?_)
                    rintro e wA ⟨rfl, hBA⟩
                    obtain ⟨wB, hwB⟩ : ∃ x, wA.alloc (Obj.cells #[Value.bool false, Value.string (str bx)] 50) = x := ⟨_, rfl⟩
                    have AB : Arr wB wA.heap.size 50 [.bool false, .string (str bx)] := by rw [← hwB]; exact Arr.new _ _ _
                    have hb1 : Below wo.heap.size wo wA := HB.out.trans (hBA.mono HB.out.size)
                    have hb2 : Below wo.heap.size wo wB := by rw [← hwB]; exact hb1.alloc hb1.size _
                    have HAB := Lib.hid AB
                    have HBB := Lib.hid hb2
                    clear AB hb1 hb2 hBA
                    go_wp2_with fail
                    clear hwB
                    (with_reducible refine (H2.out _).mono ?_)
                    rintro e wC ⟨rfl, hBC⟩
                    obtain ⟨wD, hwD⟩ : ∃ x, wC.alloc (Obj.cells #[Value.bool false, Value.string (str bY)] 50) = x := ⟨_, rfl⟩
                    have AD : Arr wD wC.heap.size 50 [.bool false, .string (str bY)] := by rw [← hwD]; exact Arr.new _ _ _
                    have AE : Arr wD wA.heap.size 50 [.bool false, .string (str bx)] := by rw [← hwD]; exact (HAB.out.below hBC).alloc _
                    have hb1 : Below wo.heap.size wo wC := HBB.out.trans (hBC.mono HBB.out.size)
                    have hb2 : Below wo.heap.size wo wD := by rw [← hwD]; exact hb1.alloc hb1.size _
                    have H30 := Lib.hid (compareNumbers30 bx bY TX.out.1 TY.out.1 TX.out.2 TY.out.2 wA.heap.size wC.heap.size 1 1 wD (AE.cell rfl) (AE.cell rfl) (AD.cell rfl) (AD.cell rfl))
                    have HBD := Lib.hid hb2
                    clear AD AE hb1 hb2 hBC
                    go_wp2_with fail
                    clear hwD
                    (with_reducible refine (H30.out).mono ?_)
                    rintro e wE ⟨rfl, hBE⟩
                    rw [HX.out]
                    have HBE := Lib.hid (HBD.out.trans (hBE.mono HBD.out.size))
                    clear hBE
                    go_wp2_with fail
                    go_roundw
                    case rel => exact ⟨_, _, _, i + 1, rfl, rfl, rfl, by go_num, by omega, HDIS.out, HBE⟩
                    case measure => simp [intOf]; omega
                · have h2 : i < ms.length := by omega
                  have H1 := Lib.hid (show ∀ w' : World, Calls Tryz.prog 31 #[.string ⟨#[48]⟩] w' fun e w'' => e = .returned (.agg #[.bool false, .string (str bx)]) ∧ Below w'.heap.size w' w'' from fun w' => by
                    have h := H1.out w'
                    rw [show X = 0 by rw [HXX.out, List.getD_eq_getElem?_getD, List.getElem?_eq_none (by omega)]; rfl, dec_zero'] at h
                    exact h)
                  obtain ⟨g', cap', hv, hcell'⟩ := nums_at (HT2.out.below HB.out) h2
                  rw [← HYY.out] at hcell'
                  injection hv with e1 _ e2
                  subst e1 e2
                  go_wp2_with fail
                  (with_reducible refine (H1.out _).mono ?_)
                  rintro e wA ⟨rfl, hBA⟩
                  obtain ⟨wB, hwB⟩ : ∃ x, wA.alloc (Obj.cells #[Value.bool false, Value.string (str bx)] 50) = x := ⟨_, rfl⟩
                  have AB : Arr wB wA.heap.size 50 [.bool false, .string (str bx)] := by rw [← hwB]; exact Arr.new _ _ _
                  have hb1 : Below wo.heap.size wo wA := HB.out.trans (hBA.mono HB.out.size)
                  have hb2 : Below wo.heap.size wo wB := by rw [← hwB]; exact hb1.alloc hb1.size _
                  have HAB := Lib.hid AB
                  have HBB := Lib.hid hb2
                  clear AB hb1 hb2 hBA
                  go_wp2_with fail
                  clear hwB
                  (with_reducible refine (H2.out _).mono ?_)
                  rintro e wC ⟨rfl, hBC⟩
                  obtain ⟨wD, hwD⟩ : ∃ x, wC.alloc (Obj.cells #[Value.bool false, Value.string (str bY)] 50) = x := ⟨_, rfl⟩
                  have AD : Arr wD wC.heap.size 50 [.bool false, .string (str bY)] := by rw [← hwD]; exact Arr.new _ _ _
                  have AE : Arr wD wA.heap.size 50 [.bool false, .string (str bx)] := by rw [← hwD]; exact (HAB.out.below hBC).alloc _
                  have hb1 : Below wo.heap.size wo wC := HBB.out.trans (hBC.mono HBB.out.size)
                  have hb2 : Below wo.heap.size wo wD := by rw [← hwD]; exact hb1.alloc hb1.size _
                  have H30 := Lib.hid (compareNumbers30 bx bY TX.out.1 TY.out.1 TX.out.2 TY.out.2 wA.heap.size wC.heap.size 1 1 wD (AE.cell rfl) (AE.cell rfl) (AD.cell rfl) (AD.cell rfl))
                  have HBD := Lib.hid hb2
                  clear AD AE hb1 hb2 hBC
                  go_wp2_with fail
                  clear hwD
                  (with_reducible refine (H30.out).mono ?_)
                  rintro e wE ⟨rfl, hBE⟩
                  rw [HX.out]
                  have HBE := Lib.hid (HBD.out.trans (hBE.mono HBD.out.size))
                  clear hBE
                  go_wp2_with fail
                  go_roundw
                  case rel => exact ⟨_, _, _, i + 1, rfl, rfl, rfl, by go_num, by omega, HDIS.out, HBE⟩
                  case measure => simp [intOf]; omega
              · have hval : cmpL ns ms = c := by
                  rcases hc with ⟨h0, h⟩ | ⟨h0, h⟩
                  · have h1 : ¬ i < ns.length := fun e => hgo ⟨h0, .inl e⟩
                    have h2 : ¬ i < ms.length := fun e => hgo ⟨h0, .inr e⟩
                    rw [h.out, List.drop_eq_nil_of_le (by omega), List.drop_eq_nil_of_le (by omega), h0, cmpL]
                  · exact h.out
                have HC := Lib.hid (HCT.out wr HBR.out)
                rw [hval] at HC
                clear hval hc
                by_cases h0 : c = 0
                · subst h0
                  have h1 : ¬ i < ns.length := fun e => hgo ⟨rfl, .inl e⟩
                  have h2 : ¬ i < ms.length := fun e => hgo ⟨rfl, .inr e⟩
                  clear hgo
                  go_wp2_with fail
                  (with_reducible refine (HC.out).mono ?_)
                  rintro e w5 ⟨rfl, hB5⟩
                  have HB5 := Lib.hid (HBR.out.trans (hB5.mono HBR.out.size))
                  clear hB5
                  go_wp2_with fail
                  go_ret
                  exact ⟨rfl, HB5.out⟩
                · have m1 : (c == 0) = false := by simpa using h0
                  clear hgo
                  go_wp2_with fail
                  (with_reducible refine (HC.out).mono ?_)
                  rintro e w5 ⟨rfl, hB5⟩
                  have HB5 := Lib.hid (HBR.out.trans (hB5.mono HBR.out.size))
                  clear hB5
                  go_wp2_with fail
                  go_ret
                  exact ⟨rfl, HB5.out⟩
      · have hs : shortB [a, b] = false := by simpa using hs
        go_wp2_with fail
        go_ret
        exact ⟨rfl, HB0.out⟩
    · have p3 : 2147483647 < b.length := by omega
      clear g2
      go_enter Tryz.func8, Tryz.ntmps8
      go_wp2_with fail
      go_ret
      exact ⟨rfl, Below.refl _ _⟩
  · have p3 : 2147483647 < a.length := by omega
    clear g1
    go_enter Tryz.func8, Tryz.ntmps8
    go_wp2_with fail
    go_ret
    exact ⟨rfl, Below.refl _ _⟩
end Go.Proofs.Tz
