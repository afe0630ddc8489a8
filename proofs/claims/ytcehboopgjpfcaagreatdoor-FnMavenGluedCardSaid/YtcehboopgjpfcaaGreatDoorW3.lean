/- The walk of FnMavenGlued: for numbers of up to K words. -/
import Derived.Test.YtcehboopgjpfcaaGreatDoorV6
import Derived.Test.YtcehboopgjpfcaaGreatDoorL8
import Derived.BigQuiet
import Derived.Deep.QuietTactic
namespace Go.Proofs.Mv
theorem sort_of {w : Bs} (h : isWord w = true ∨ allDig w = true) (hA : upper w ≠ [65]) (hB : upper w ≠ [66]) (hM : upper w ≠ [77]) : Sort1 w := by
  refine ⟨?_, fun e => hA ?_, fun e => hB ?_, fun e => hM ?_⟩
  · rcases h with h | h
    · exact ⟨false, hom_word h⟩
    · obtain ⟨h1, h2⟩ : w ≠ [] ∧ w.all isDig = true := by simpa [allDig] using h
      exact ⟨true, hom_dig h1 fun c hc => List.all_eq_true.1 h2 c hc⟩
  · rw [← upper_lower, e]; rfl
  · rw [← upper_lower, e]; rfl
  · rw [← upper_lower, e]; rfl
theorem asc_sort {w : Bs} (h : isWord w = true ∨ allDig w = true) : Asc w := by
  rcases h with h | h
  · exact Tz.asc_word h
  · obtain ⟨h1, h2⟩ : w ≠ [] ∧ w.all isDig = true := by simpa [allDig] using h
    exact fun c hc => Tz.asc_dig (List.all_eq_true.1 h2 c hc)
theorem gpcs_asc {j : Bs} (hj : Asc j) (pt : Nat → Bool) : ∀ (l : List Bs) (i : Nat) (d : Bool), (∀ w ∈ l, Asc w) → Asc (ptxt (gpcs j pt i d l))
  | [], i, d, _ => fun c hc => by simp [gpcs, ptxt] at hc
  | w :: r, i, d, h => by
    rw [gpcs, ptxt_cons]
    refine Tz.asc_append (Tz.asc_append ?_ (h w (by simp))) (gpcs_asc hj pt r (i + 1) _ fun x hx => h x (by simp [hx]))
    split
    · split
      · exact fun c hc => by simp at hc; subst hc; decide
      · exact fun c hc => by simp at hc; subst hc; decide
    · exact hj
theorem gtx_asc {j : Bs} (hj : Asc j) (pt : Nat → Bool) {l : List Bs} (h : ∀ w ∈ l, Asc w) : Asc (gtx j pt l) := by
  cases l with
  | nil => exact fun c hc => by simp [gtx] at hc
  | cons q r =>
    rw [gtx, ptxt_cons, List.nil_append]
    exact Tz.asc_append (h q (by simp)) (gpcs_asc hj pt r 1 _ fun x hx => h x (by simp [hx]))
end Go.Proofs.Mv
namespace Go.Proofs.Tz
open Go.RowKit Mv
def fits2 (L : List Bs) : Bool := L.all (fun s => decide (s.length ≤ 2147483647)) && decide (L.length ≤ 2147483647)

set_option maxHeartbeats 2000000 in
theorem short_wide (a : Option Addr) (c : Nat) (L : List Bs) (hl : L.length ≤ 2147483647) (w : World) (h : RowS w a L) : Calls Tryz.prog 17 #[.slice a L.length c] w fun e w' => e = .returned (.bool (shortB L)) ∧ w = w' := by
  have H := Lib.hid h
  have hss := str_size
  clear h
  go_enter Tryz.func17, Tryz.ntmps17
  go_wp2_with fail
  go_loop [4, 7] (fun z x => ∃ (zv : Value) (i : Nat), zv = z ∧ x = .int .i64 (i : Int) ∧ i ≤ L.length ∧ Hid (∀ s ∈ L.take i, s.length ≤ 1200)) (fun _ x => L.length - (intOf x).toNat)
  case atStart => exact ⟨_, 0, rfl, rfl, Nat.zero_le _, Lib.hid (by simp)⟩
  case round =>
    obtain ⟨zv, i, rfl, rfl, hi, J⟩ := hrel
    by_cases hil : i < L.length
    · obtain ⟨s, hs⟩ : ∃ s, L[i]? = some s := ⟨_, List.getElem?_eq_getElem hil⟩
      obtain ⟨b, o, hb, hc⟩ := H.out i s hs
      subst hb
      have HS := Lib.hid hs
      clear hs
      by_cases h12 : s.length ≤ 1200
      · have HN := Lib.hid (take_all' J.out HS.out h12)
        go_wp2_with fail
        go_round
        case rel => exact ⟨_, i + 1, rfl, by go_num, by omega, HN⟩
        case measure => simp [intOf]; omega
      · have hf : shortB L = false := by
          cases hsb : shortB L
          · rfl
          · simp only [shortB, Bool.and_eq_true, List.all_eq_true, decide_eq_true_eq] at hsb
            exact absurd (hsb.1 s (List.mem_of_getElem? HS.out)) h12
        have HF := Lib.hid hf
        have h13 : 1200 < s.length := by omega
        clear hf h12
        go_wp2_with fail
        go_ret
        exact ⟨by rw [HF.out]; rfl, rfl⟩
    · have hall : ∀ s ∈ L, s.length ≤ 1200 := by
        have := J.out
        rwa [List.take_of_length_le (by omega)] at this
      have hf : shortB L = decide (L.length ≤ 60) := by
        have : L.all (fun s => decide (s.length ≤ 1200)) = true := List.all_eq_true.2 fun s hs => by simpa using hall s hs
        rw [shortB, this, Bool.true_and]
      have HF := Lib.hid hf
      clear hall hf
      go_wp2_with fail
      go_ret
      exact ⟨by rw [HF.out]; simp; omega, rfl⟩

set_option maxHeartbeats 2000000 in
theorem fits2_any (a : Option Addr) (c : Nat) (L : List Bs) (hl : L.length ≤ 9223372036854775807) (w : World) (h : RowS w a L) : Calls Tryz.prog 16 #[.slice a L.length c] w fun e w' => e = .returned (.bool (fits2 L)) ∧ w = w' := by
  have H := Lib.hid h
  have hss := str_size
  clear h
  by_cases g0 : L.length ≤ 2147483647
  · go_enter Tryz.func16, Tryz.ntmps16
    go_wp2_with fail
    go_loop [4, 10] (fun z x => ∃ (zv : Value) (i : Nat), zv = z ∧ x = .int .i64 (i : Int) ∧ i ≤ L.length ∧ Hid (∀ s ∈ L.take i, s.length ≤ 2147483647)) (fun _ x => L.length - (intOf x).toNat)
    case atStart => exact ⟨_, 0, rfl, rfl, Nat.zero_le _, Lib.hid (by simp)⟩
    case round =>
      obtain ⟨zv, i, rfl, rfl, hi, J⟩ := hrel
      by_cases hil : i < L.length
      · obtain ⟨s, hs⟩ : ∃ s, L[i]? = some s := ⟨_, List.getElem?_eq_getElem hil⟩
        obtain ⟨b, o, hb, hc⟩ := H.out i s hs
        subst hb
        have HS := Lib.hid hs
        clear hs
        by_cases h12 : s.length ≤ 2147483647
        · have HN := Lib.hid (take_all' J.out HS.out h12)
          go_wp2_with fail
          go_round
          case rel => exact ⟨_, i + 1, rfl, by go_num, by omega, HN⟩
          case measure => simp [intOf]; omega
        · have hf : fits2 L = false := by
            cases hsb : fits2 L
            · rfl
            · simp only [fits2, Bool.and_eq_true, List.all_eq_true, decide_eq_true_eq] at hsb
              exact absurd (hsb.1 s (List.mem_of_getElem? HS.out)) h12
          have HF := Lib.hid hf
          have h13 : 2147483647 < s.length := by omega
          clear hf h12
          go_wp2_with fail
          go_ret
          exact ⟨by rw [HF.out]; rfl, rfl⟩
      · have hall : ∀ s ∈ L, s.length ≤ 2147483647 := by
          have := J.out
          rwa [List.take_of_length_le (by omega)] at this
        have hf : fits2 L = true := by
          have : L.all (fun s => decide (s.length ≤ 2147483647)) = true := List.all_eq_true.2 fun s hs => by simpa using hall s hs
          rw [fits2, this, Bool.true_and]; simpa using g0
        have HF := Lib.hid hf
        clear hall hf
        go_wp2_with fail
        go_ret
        exact ⟨by rw [HF.out]; rfl, rfl⟩
  · have g2 : 2147483647 < L.length := by omega
    have hf : fits2 L = false := by simp [fits2, g0]
    clear g0
    go_enter Tryz.func16, Tryz.ntmps16
    go_wp2_with fail
    go_ret
    exact ⟨by rw [hf]; rfl, rfl⟩

/-- The points of the law. -/
def ptb (pts : List Bool) (i : Nat) : Bool := pts.getD i false

set_option maxHeartbeats 8000000 in
set_option maxRecDepth 100000 in
theorem glued_walk (K : Nat) (hK : 10 ^ 1200 ≤ WB ^ K) (HI : ItoaSaid K) (a0 : Option Addr) (c0 : Nat) (L : List Bs) (a1 : Option Addr) (c1 : Nat) (pts : List Bool) (w : World) (hE : EnvL w) (h0 : RowS w a0 L) (h1 : RowB w a1 pts)
    (hl : L.length ≤ 9223372036854775807) (hl1 : pts.length ≤ 9223372036854775807) :
    Calls Tryz.prog 3 #[.slice a0 L.length c0, .slice a1 pts.length c1] w fun e w' => e = .returned (.bool true) ∧ Below w.heap.size w w' := by
  have hss := str_size
  have hfi := fits2_any a0 c0 L hl w h0
  have HFI := Lib.hid hfi
  have HE := Lib.hid hE
  have HHI := Lib.hid HI
  have HK := Lib.hid hK
  have H0 := Lib.hid h0
  have H1 := Lib.hid h1
  clear hE HI hK h0 h1 hfi
  by_cases g1 : fits2 L = true
  · have hl2 : L.length ≤ 2147483647 := by
      simp only [fits2, Bool.and_eq_true, decide_eq_true_eq] at g1
      exact g1.2
    by_cases g2 : pts.length ≤ 2147483647
    · have hsw := short_wide a0 c0 L hl2 w H0.out
      have HSW := Lib.hid hsw
      clear hsw
      by_cases g3 : L = []
      · have hz : ((L.length : Int) == 0) = true := by rw [g3]; rfl
        clear g3
        go_enter Tryz.func3, Tryz.ntmps3
        go_wp2_with fail
        (with_reducible refine (HFI.out).mono ?_)
        rintro e w1 ⟨rfl, rfl⟩
        go_wp2_with fail
        go_ret
        exact ⟨rfl, Below.refl _ _⟩
      · have hz : ((L.length : Int) == 0) = false := by
          have := List.length_pos_iff.2 g3
          exact beq_eq_false_iff_ne.2 (by omega)
        cases hs : shortB L with
        | false =>
          rw [hs] at HSW
          go_enter Tryz.func3, Tryz.ntmps3
          go_wp2_with fail
          (with_reducible refine (HFI.out).mono ?_)
          rintro e w1 ⟨rfl, rfl⟩
          go_wp2_with fail
          (with_reducible refine (HSW.out).mono ?_)
          rintro e w1 ⟨rfl, rfl⟩
          go_wp2_with fail
          go_ret
          exact ⟨rfl, Below.refl _ _⟩
        | true =>
          rw [hs] at HSW
          obtain ⟨hs1, hs2⟩ : (∀ s ∈ L, s.length ≤ 1200) ∧ L.length ≤ 60 := by
            simp only [shortB, Bool.and_eq_true, List.all_eq_true, decide_eq_true_eq] at hs
            exact hs
          have HS1 := Lib.hid hs1
          have HG3 := Lib.hid g3
          clear hs hs1 g3
          go_enter Tryz.func3, Tryz.ntmps3
          go_wp2_with fail
          (with_reducible refine (HFI.out).mono ?_)
          rintro e w1 ⟨rfl, rfl⟩
          go_wp2_with fail
          (with_reducible refine (HSW.out).mono ?_)
          rintro e w1 ⟨rfl, rfl⟩
          go_wp2_with fail
          obtain ⟨wo, rfl⟩ : ∃ wo : World, wo = w := ⟨_, rfl⟩
          go_loopw [5, 6, 29] (fun s t x wr => ∃ k : Nat, k ≤ L.length ∧ s = .string (str (gtx [] (ptb pts) (L.take k))) ∧ t = .string (str (gtx [45] (ptb pts) (L.take k))) ∧ x = .int .i64 (k : Int) ∧ Hid (∀ v ∈ L.take k, Sort1 v ∧ Asc v) ∧ Hid (Below wo.heap.size wo wr)) (fun _ _ x _ => L.length - (intOf x).toNat)
          case atStart => exact ⟨0, Nat.zero_le _, rfl, rfl, rfl, Lib.hid (by simp), Lib.hid (Below.refl _ _)⟩
          case round =>
            obtain ⟨k, hk, rfl, rfl, rfl, J1, J2⟩ := hrel
            obtain ⟨sg, hsg⟩ : ∃ sg, sg = gtx [] (ptb pts) (L.take k) := ⟨_, rfl⟩
            obtain ⟨tg, htg⟩ : ∃ tg, tg = gtx [45] (ptb pts) (L.take k) := ⟨_, rfl⟩
            rw [← hsg, ← htg]
            have hsl : sg.length ≤ 1201 * k := by
              have := gtx_len [] (by simp) (ptb pts) 1200 (L.take k) fun v hv => HS1.out v (List.mem_of_mem_take hv)
              rw [List.length_take, Nat.min_eq_left hk] at this
              rw [hsg]; exact this
            have htl : tg.length ≤ 1201 * k := by
              have := gtx_len [45] (by simp) (ptb pts) 1200 (L.take k) fun v hv => HS1.out v (List.mem_of_mem_take hv)
              rw [List.length_take, Nat.min_eq_left hk] at this
              rw [htg]; exact this
            have HSG := Lib.hid hsg
            have HTG := Lib.hid htg
            clear hsg htg
            by_cases hkl : k < L.length
            · obtain ⟨v, hv⟩ : ∃ v, L[k]? = some v := ⟨_, List.getElem?_eq_getElem hkl⟩
              obtain ⟨b, o, hb, hcell⟩ := (by have := H0.out; exact fun i s hi => (by obtain ⟨b, o, h1, h2⟩ := this i s hi; exact ⟨b, o, h1, cell_keep J2.out h2⟩ : ∃ b o, a0 = some ⟨b, o, none⟩ ∧ wr.cell? ⟨b, o + i, none⟩ = some (.string (str s))) : ∀ (i : Nat) (s : Bs), L[i]? = some s → ∃ b o, a0 = some ⟨b, o, none⟩ ∧ wr.cell? ⟨b, o + i, none⟩ = some (.string (str s))) k v hv
              have hvl := HS1.out v (List.mem_of_getElem? hv)
              subst hb
              have HV := Lib.hid hv
              clear hv
              go_wp2_with fail
              (with_reducible refine (words_any v (by omega) _).mono ?_)
              rintro e w1 ⟨rfl, rfl⟩
              cases hw : isWord v with
              | true =>
                have hso : isWord v = true ∨ allDig v = true := .inl hw
                have hasc := asc_sort hso
                have HSO := Lib.hid hso
                have HASC := Lib.hid hasc
                clear hso hasc hw
                go_wp2_with fail
                (with_reducible refine (great_any v (by omega) HASC.out _).mono ?_)
                rintro e w1 ⟨rfl, rfl⟩
                by_cases hA : ((str (upper v)).toList == [65]) = true
                · go_wp2_with fail
                  go_ret
                  exact ⟨rfl, J2.out⟩
                · have hA : ((str (upper v)).toList == [65]) = false := by simpa using hA
                  go_wp2_with fail
                  (with_reducible refine (great_any v (by omega) HASC.out _).mono ?_)
                  rintro e w1 ⟨rfl, rfl⟩
                  by_cases hB : ((str (upper v)).toList == [66]) = true
                  · go_wp2_with fail
                    go_ret
                    exact ⟨rfl, J2.out⟩
                  · have hB : ((str (upper v)).toList == [66]) = false := by simpa using hB
                    go_wp2_with fail
                    (with_reducible refine (great_any v (by omega) HASC.out _).mono ?_)
                    rintro e w1 ⟨rfl, rfl⟩
                    by_cases hM : ((str (upper v)).toList == [77]) = true
                    · go_wp2_with fail
                      go_ret
                      exact ⟨rfl, J2.out⟩
                    · have hM : ((str (upper v)).toList == [77]) = false := by simpa using hM
                      have HNA := Lib.hid (show upper v ≠ [65] ∧ upper v ≠ [66] ∧ upper v ≠ [77] from ⟨fun e => by rw [str_toList, e] at hA; exact absurd hA (by decide), fun e => by rw [str_toList, e] at hB; exact absurd hB (by decide), fun e => by rw [str_toList, e] at hM; exact absurd hM (by decide)⟩)
                      by_cases hk0 : 0 < k
                      · obtain ⟨k', rfl⟩ : ∃ k', k = k' + 1 := ⟨k - 1, by omega⟩
                        obtain ⟨u, hu⟩ : ∃ u, L[k']? = some u := ⟨_, List.getElem?_eq_getElem (by omega)⟩
                        have hul := HS1.out u (List.mem_of_getElem? hu)
                        have hcu : wr.cell? ⟨b, o + k', none⟩ = some (.string (str u)) := by
                          obtain ⟨b2, o2, q1, q2⟩ := H0.out k' u hu
                          injection q1 with q1
                          injection q1 with q1 q3 _
                          rw [q1, q3]
                          exact cell_keep J2.out q2
                        have HTK1 := Lib.hid (take_snoc hu)
                        have HTK : Hid (L.take (k' + 1 + 1) = L.take k' ++ [u] ++ [v]) := Lib.hid (by rw [take_snoc HV.out, take_snoc hu])
                        have HLT : Hid ((L.take k').length = k') := Lib.hid (by rw [List.length_take]; omega)
                        obtain ⟨d1, hd1⟩ : ∃ d, d = allDig v := ⟨_, rfl⟩
                        obtain ⟨d2, hd2⟩ : ∃ d, d = allDig u := ⟨_, rfl⟩
                        have q1 : ∀ n, Calls Tryz.prog 19 #[.string (str v)] (wr.drewN n) fun e w' => e = .returned (.bool d1) ∧ w' = wr.drewN n := fun n => (digits_any v (by omega) _).mono (fun _ _ h => ⟨by rw [hd1]; exact h.1, h.2.symm⟩)
                        have q2 : ∀ n, Calls Tryz.prog 19 #[.string (str u)] (wr.drewN n) fun e w' => e = .returned (.bool d2) ∧ w' = wr.drewN n := fun n => (digits_any u (by omega) _).mono (fun _ _ h => ⟨by rw [hd2]; exact h.1, h.2.symm⟩)
                        have Q1 := Lib.hid q1
                        have Q2 := Lib.hid q2
                        have y1 : (0 : Int) ≤ (k' : Int) := by omega
                        have y2 : (k' : Int) < (L.length : Int) := by omega
                        have y3 : (0 : Int) < (k' : Int) + 1 := by omega
                        have HUV := Lib.hid (And.intro hd1 hd2)
                        clear q1 q2 hu hd1 hd2 hk0
                        go_wp2_with fail
                        clear hA hB hM
                        go_quiet (first | (go_at_call 19; with_reducible exact Calls.quiet_of_same (Q1.out _)) | (go_at_call 19; with_reducible exact Calls.quiet_of_same (Q2.out _)))
                        obtain ⟨w9, hw9⟩ : ∃ x, x = wr.drewN nq := ⟨_, rfl⟩
                        have HB9 : Hid (Below wo.heap.size wo w9) := by rw [hw9]; exact Lib.hid (below_drewN' J2.out _)
                        rw [← hw9]
                        clear hw9
                        by_cases hm : d1 = d2
                        · subst hm
                          by_cases hp : k' + 1 < pts.length
                          · obtain ⟨p, hpp⟩ : ∃ p, pts[k' + 1]? = some p := ⟨_, List.getElem?_eq_getElem hp⟩
                            obtain ⟨b3, o3, r1, r2⟩ := H1.out (k' + 1) p hpp
                            have r3 := cell_keep HB9.out r2
                            subst r1
                            have y4 : (k' : Int) + 1 < (pts.length : Int) := by omega
                            cases p with
                            | true =>
                              have HCS : Hid ((if allDig v = allDig u then (if ptb pts (k' + 1) = true then [46] else [45]) else ([] : Bs)) = [46] ∧ (if allDig v = allDig u then (if ptb pts (k' + 1) = true then [46] else [45]) else ([45] : Bs)) = [46]) := Lib.hid (by
                                rw [← HUV.out.1, ← HUV.out.2, if_pos rfl, if_pos rfl, ptb, List.getD_eq_getElem?_getD, hpp]; exact ⟨rfl, rfl⟩)
                              clear hpp
                              go_wp2_with fail
                              go_roundw
                              case rel =>
                                refine ⟨k' + 1 + 1, by omega, ?_, ?_, by go_num, Lib.hid (take_all' J1.out HV.out ⟨sort_of HSO.out HNA.out.1 HNA.out.2.1 HNA.out.2.2, HASC.out⟩), HB9⟩
                                · rw [HTK.out, gtx_snoc, HLT.out, ← HTK1.out, ← HSG.out]; simp only [HCS.out]; first | rfl | (simp only [str_append, List.append_assoc]; first | done | rfl)
                                · rw [HTK.out, gtx_snoc, HLT.out, ← HTK1.out, ← HTG.out]; simp only [HCS.out]; first | rfl | (simp only [str_append, List.append_assoc]; first | done | rfl)
                              case measure => simp [intOf]; omega
                            | false =>
                              have HCS : Hid ((if allDig v = allDig u then (if ptb pts (k' + 1) = true then [46] else [45]) else ([] : Bs)) = [45] ∧ (if allDig v = allDig u then (if ptb pts (k' + 1) = true then [46] else [45]) else ([45] : Bs)) = [45]) := Lib.hid (by
                                rw [← HUV.out.1, ← HUV.out.2, if_pos rfl, if_pos rfl, ptb, List.getD_eq_getElem?_getD, hpp]; exact ⟨rfl, rfl⟩)
                              clear hpp
                              go_wp2_with fail
                              go_roundw
                              case rel =>
                                refine ⟨k' + 1 + 1, by omega, ?_, ?_, by go_num, Lib.hid (take_all' J1.out HV.out ⟨sort_of HSO.out HNA.out.1 HNA.out.2.1 HNA.out.2.2, HASC.out⟩), HB9⟩
                                · rw [HTK.out, gtx_snoc, HLT.out, ← HTK1.out, ← HSG.out]; simp only [HCS.out]; first | rfl | (simp only [str_append, List.append_assoc]; first | done | rfl)
                                · rw [HTK.out, gtx_snoc, HLT.out, ← HTK1.out, ← HTG.out]; simp only [HCS.out]; first | rfl | (simp only [str_append, List.append_assoc]; first | done | rfl)
                              case measure => simp [intOf]; omega
                          · have y4 : ¬ (k' : Int) + 1 < (pts.length : Int) := by omega
                            have HCS : Hid ((if allDig v = allDig u then (if ptb pts (k' + 1) = true then [46] else [45]) else ([] : Bs)) = [45] ∧ (if allDig v = allDig u then (if ptb pts (k' + 1) = true then [46] else [45]) else ([45] : Bs)) = [45]) := Lib.hid (by
                              rw [← HUV.out.1, ← HUV.out.2, if_pos rfl, if_pos rfl, ptb, List.getD_eq_getElem?_getD, List.getElem?_eq_none (by omega)]; exact ⟨rfl, rfl⟩)
                            clear hp
                            go_wp2_with fail
                            go_roundw
                            case rel =>
                              refine ⟨k' + 1 + 1, by omega, ?_, ?_, by go_num, Lib.hid (take_all' J1.out HV.out ⟨sort_of HSO.out HNA.out.1 HNA.out.2.1 HNA.out.2.2, HASC.out⟩), HB9⟩
                              · rw [HTK.out, gtx_snoc, HLT.out, ← HTK1.out, ← HSG.out]; simp only [HCS.out]; first | rfl | (simp only [str_append, List.append_assoc]; first | done | rfl)
                              · rw [HTK.out, gtx_snoc, HLT.out, ← HTK1.out, ← HTG.out]; simp only [HCS.out]; first | rfl | (simp only [str_append, List.append_assoc]; first | done | rfl)
                            case measure => simp [intOf]; omega
                        · have hm2 : (d1 == d2) = false := by simpa using hm
                          have HCS : Hid ((if allDig v = allDig u then (if ptb pts (k' + 1) = true then [46] else [45]) else ([] : Bs)) = [] ∧ (if allDig v = allDig u then (if ptb pts (k' + 1) = true then [46] else [45]) else ([45] : Bs)) = [45]) := Lib.hid (by
                            rw [← HUV.out.1, ← HUV.out.2, if_neg hm, if_neg hm]; exact ⟨rfl, rfl⟩)
                          go_wp2_with fail
                          go_roundw
                          case rel =>
                            refine ⟨k' + 1 + 1, by omega, ?_, ?_, by go_num, Lib.hid (take_all' J1.out HV.out ⟨sort_of HSO.out HNA.out.1 HNA.out.2.1 HNA.out.2.2, HASC.out⟩), HB9⟩
                            · rw [HTK.out, gtx_snoc, HLT.out, ← HTK1.out, ← HSG.out]; simp only [HCS.out]; first | rfl | (simp only [str_append, List.append_assoc]; first | done | rfl)
                            · rw [HTK.out, gtx_snoc, HLT.out, ← HTK1.out, ← HTG.out]; simp only [HCS.out]; first | rfl | (simp only [str_append, List.append_assoc]; first | done | rfl)
                          case measure => simp [intOf]; omega
                      · have HK0 : Hid (k = 0) := Lib.hid (by omega)
                        have y0 : ¬ (0 : Int) < (k : Int) := by omega
                        clear hk0
                        go_wp2_with fail
                        go_roundw
                        case rel =>
                          have e0 : L.take (k + 1) = [v] := by rw [take_snoc HV.out, HK0.out]; rfl
                          have e1 : L.take k = [] := by rw [HK0.out]; rfl
                          refine ⟨k + 1, by omega, ?_, ?_, by go_num, Lib.hid (take_all' J1.out HV.out ⟨sort_of HSO.out HNA.out.1 HNA.out.2.1 HNA.out.2.2, HASC.out⟩), J2⟩
                          · rw [str_append, e0, gtx_one, HSG.out, e1]; rfl
                          · rw [str_append, e0, gtx_one, HTG.out, e1]; rfl
                        case measure => simp [intOf]; omega
              | false =>
                go_wp2_with fail
                (with_reducible refine (digits_any v (by omega) _).mono ?_)
                rintro e w1 ⟨rfl, rfl⟩
                cases hd : allDig v with
                | false =>
                  go_wp2_with fail
                  go_ret
                  exact ⟨rfl, J2.out⟩
                | true =>
                  have hso : isWord v = true ∨ allDig v = true := .inr hd
                  have hasc := asc_sort hso
                  have HSO := Lib.hid hso
                  have HASC := Lib.hid hasc
                  clear hso hasc hd hw
                  go_wp2_with fail
                  (with_reducible refine (great_any v (by omega) HASC.out _).mono ?_)
                  rintro e w1 ⟨rfl, rfl⟩
                  by_cases hA : ((str (upper v)).toList == [65]) = true
                  · go_wp2_with fail
                    go_ret
                    exact ⟨rfl, J2.out⟩
                  · have hA : ((str (upper v)).toList == [65]) = false := by simpa using hA
                    go_wp2_with fail
                    (with_reducible refine (great_any v (by omega) HASC.out _).mono ?_)
                    rintro e w1 ⟨rfl, rfl⟩
                    by_cases hB : ((str (upper v)).toList == [66]) = true
                    · go_wp2_with fail
                      go_ret
                      exact ⟨rfl, J2.out⟩
                    · have hB : ((str (upper v)).toList == [66]) = false := by simpa using hB
                      go_wp2_with fail
                      (with_reducible refine (great_any v (by omega) HASC.out _).mono ?_)
                      rintro e w1 ⟨rfl, rfl⟩
                      by_cases hM : ((str (upper v)).toList == [77]) = true
                      · go_wp2_with fail
                        go_ret
                        exact ⟨rfl, J2.out⟩
                      · have hM : ((str (upper v)).toList == [77]) = false := by simpa using hM
                        have HNA := Lib.hid (show upper v ≠ [65] ∧ upper v ≠ [66] ∧ upper v ≠ [77] from ⟨fun e => by rw [str_toList, e] at hA; exact absurd hA (by decide), fun e => by rw [str_toList, e] at hB; exact absurd hB (by decide), fun e => by rw [str_toList, e] at hM; exact absurd hM (by decide)⟩)
                        by_cases hk0 : 0 < k
                        · obtain ⟨k', rfl⟩ : ∃ k', k = k' + 1 := ⟨k - 1, by omega⟩
                          obtain ⟨u, hu⟩ : ∃ u, L[k']? = some u := ⟨_, List.getElem?_eq_getElem (by omega)⟩
                          have hul := HS1.out u (List.mem_of_getElem? hu)
                          have hcu : wr.cell? ⟨b, o + k', none⟩ = some (.string (str u)) := by
                            obtain ⟨b2, o2, q1, q2⟩ := H0.out k' u hu
                            injection q1 with q1
                            injection q1 with q1 q3 _
                            rw [q1, q3]
                            exact cell_keep J2.out q2
                          have HTK1 := Lib.hid (take_snoc hu)
                          have HTK : Hid (L.take (k' + 1 + 1) = L.take k' ++ [u] ++ [v]) := Lib.hid (by rw [take_snoc HV.out, take_snoc hu])
                          have HLT : Hid ((L.take k').length = k') := Lib.hid (by rw [List.length_take]; omega)
                          obtain ⟨d1, hd1⟩ : ∃ d, d = allDig v := ⟨_, rfl⟩
                          obtain ⟨d2, hd2⟩ : ∃ d, d = allDig u := ⟨_, rfl⟩
                          have q1 : ∀ n, Calls Tryz.prog 19 #[.string (str v)] (wr.drewN n) fun e w' => e = .returned (.bool d1) ∧ w' = wr.drewN n := fun n => (digits_any v (by omega) _).mono (fun _ _ h => ⟨by rw [hd1]; exact h.1, h.2.symm⟩)
                          have q2 : ∀ n, Calls Tryz.prog 19 #[.string (str u)] (wr.drewN n) fun e w' => e = .returned (.bool d2) ∧ w' = wr.drewN n := fun n => (digits_any u (by omega) _).mono (fun _ _ h => ⟨by rw [hd2]; exact h.1, h.2.symm⟩)
                          have Q1 := Lib.hid q1
                          have Q2 := Lib.hid q2
                          have y1 : (0 : Int) ≤ (k' : Int) := by omega
                          have y2 : (k' : Int) < (L.length : Int) := by omega
                          have y3 : (0 : Int) < (k' : Int) + 1 := by omega
                          have HUV := Lib.hid (And.intro hd1 hd2)
                          clear q1 q2 hu hd1 hd2 hk0
                          go_wp2_with fail
                          clear hA hB hM
                          go_quiet (first | (go_at_call 19; with_reducible exact Calls.quiet_of_same (Q1.out _)) | (go_at_call 19; with_reducible exact Calls.quiet_of_same (Q2.out _)))
                          obtain ⟨w9, hw9⟩ : ∃ x, x = wr.drewN nq := ⟨_, rfl⟩
                          have HB9 : Hid (Below wo.heap.size wo w9) := by rw [hw9]; exact Lib.hid (below_drewN' J2.out _)
                          rw [← hw9]
                          clear hw9
                          by_cases hm : d1 = d2
                          · subst hm
                            by_cases hp : k' + 1 < pts.length
                            · obtain ⟨p, hpp⟩ : ∃ p, pts[k' + 1]? = some p := ⟨_, List.getElem?_eq_getElem hp⟩
                              obtain ⟨b3, o3, r1, r2⟩ := H1.out (k' + 1) p hpp
                              have r3 := cell_keep HB9.out r2
                              subst r1
                              have y4 : (k' : Int) + 1 < (pts.length : Int) := by omega
                              cases p with
                              | true =>
                                have HCS : Hid ((if allDig v = allDig u then (if ptb pts (k' + 1) = true then [46] else [45]) else ([] : Bs)) = [46] ∧ (if allDig v = allDig u then (if ptb pts (k' + 1) = true then [46] else [45]) else ([45] : Bs)) = [46]) := Lib.hid (by
                                  rw [← HUV.out.1, ← HUV.out.2, if_pos rfl, if_pos rfl, ptb, List.getD_eq_getElem?_getD, hpp]; exact ⟨rfl, rfl⟩)
                                clear hpp
                                go_wp2_with fail
                                go_roundw
                                case rel =>
                                  refine ⟨k' + 1 + 1, by omega, ?_, ?_, by go_num, Lib.hid (take_all' J1.out HV.out ⟨sort_of HSO.out HNA.out.1 HNA.out.2.1 HNA.out.2.2, HASC.out⟩), HB9⟩
                                  · rw [HTK.out, gtx_snoc, HLT.out, ← HTK1.out, ← HSG.out]; simp only [HCS.out]; first | rfl | (simp only [str_append, List.append_assoc]; first | done | rfl)
                                  · rw [HTK.out, gtx_snoc, HLT.out, ← HTK1.out, ← HTG.out]; simp only [HCS.out]; first | rfl | (simp only [str_append, List.append_assoc]; first | done | rfl)
                                case measure => simp [intOf]; omega
                              | false =>
                                have HCS : Hid ((if allDig v = allDig u then (if ptb pts (k' + 1) = true then [46] else [45]) else ([] : Bs)) = [45] ∧ (if allDig v = allDig u then (if ptb pts (k' + 1) = true then [46] else [45]) else ([45] : Bs)) = [45]) := Lib.hid (by
                                  rw [← HUV.out.1, ← HUV.out.2, if_pos rfl, if_pos rfl, ptb, List.getD_eq_getElem?_getD, hpp]; exact ⟨rfl, rfl⟩)
                                clear hpp
                                go_wp2_with fail
                                go_roundw
                                case rel =>
                                  refine ⟨k' + 1 + 1, by omega, ?_, ?_, by go_num, Lib.hid (take_all' J1.out HV.out ⟨sort_of HSO.out HNA.out.1 HNA.out.2.1 HNA.out.2.2, HASC.out⟩), HB9⟩
                                  · rw [HTK.out, gtx_snoc, HLT.out, ← HTK1.out, ← HSG.out]; simp only [HCS.out]; first | rfl | (simp only [str_append, List.append_assoc]; first | done | rfl)
                                  · rw [HTK.out, gtx_snoc, HLT.out, ← HTK1.out, ← HTG.out]; simp only [HCS.out]; first | rfl | (simp only [str_append, List.append_assoc]; first | done | rfl)
                                case measure => simp [intOf]; omega
                            · have y4 : ¬ (k' : Int) + 1 < (pts.length : Int) := by omega
                              have HCS : Hid ((if allDig v = allDig u then (if ptb pts (k' + 1) = true then [46] else [45]) else ([] : Bs)) = [45] ∧ (if allDig v = allDig u then (if ptb pts (k' + 1) = true then [46] else [45]) else ([45] : Bs)) = [45]) := Lib.hid (by
                                rw [← HUV.out.1, ← HUV.out.2, if_pos rfl, if_pos rfl, ptb, List.getD_eq_getElem?_getD, List.getElem?_eq_none (by omega)]; exact ⟨rfl, rfl⟩)
                              clear hp
                              go_wp2_with fail
                              go_roundw
                              case rel =>
                                refine ⟨k' + 1 + 1, by omega, ?_, ?_, by go_num, Lib.hid (take_all' J1.out HV.out ⟨sort_of HSO.out HNA.out.1 HNA.out.2.1 HNA.out.2.2, HASC.out⟩), HB9⟩
                                · rw [HTK.out, gtx_snoc, HLT.out, ← HTK1.out, ← HSG.out]; simp only [HCS.out]; first | rfl | (simp only [str_append, List.append_assoc]; first | done | rfl)
                                · rw [HTK.out, gtx_snoc, HLT.out, ← HTK1.out, ← HTG.out]; simp only [HCS.out]; first | rfl | (simp only [str_append, List.append_assoc]; first | done | rfl)
                              case measure => simp [intOf]; omega
                          · have hm2 : (d1 == d2) = false := by simpa using hm
                            have HCS : Hid ((if allDig v = allDig u then (if ptb pts (k' + 1) = true then [46] else [45]) else ([] : Bs)) = [] ∧ (if allDig v = allDig u then (if ptb pts (k' + 1) = true then [46] else [45]) else ([45] : Bs)) = [45]) := Lib.hid (by
                              rw [← HUV.out.1, ← HUV.out.2, if_neg hm, if_neg hm]; exact ⟨rfl, rfl⟩)
                            go_wp2_with fail
                            go_roundw
                            case rel =>
                              refine ⟨k' + 1 + 1, by omega, ?_, ?_, by go_num, Lib.hid (take_all' J1.out HV.out ⟨sort_of HSO.out HNA.out.1 HNA.out.2.1 HNA.out.2.2, HASC.out⟩), HB9⟩
                              · rw [HTK.out, gtx_snoc, HLT.out, ← HTK1.out, ← HSG.out]; simp only [HCS.out]; first | rfl | (simp only [str_append, List.append_assoc]; first | done | rfl)
                              · rw [HTK.out, gtx_snoc, HLT.out, ← HTK1.out, ← HTG.out]; simp only [HCS.out]; first | rfl | (simp only [str_append, List.append_assoc]; first | done | rfl)
                            case measure => simp [intOf]; omega
                        · have HK0 : Hid (k = 0) := Lib.hid (by omega)
                          have y0 : ¬ (0 : Int) < (k : Int) := by omega
                          clear hk0
                          go_wp2_with fail
                          go_roundw
                          case rel =>
                            have e0 : L.take (k + 1) = [v] := by rw [take_snoc HV.out, HK0.out]; rfl
                            have e1 : L.take k = [] := by rw [HK0.out]; rfl
                            refine ⟨k + 1, by omega, ?_, ?_, by go_num, Lib.hid (take_all' J1.out HV.out ⟨sort_of HSO.out HNA.out.1 HNA.out.2.1 HNA.out.2.2, HASC.out⟩), J2⟩
                            · rw [str_append, e0, gtx_one, HSG.out, e1]; rfl
                            · rw [str_append, e0, gtx_one, HTG.out, e1]; rfl
                          case measure => simp [intOf]; omega
            · have hke : L.take k = L := List.take_of_length_le (by omega)
              have hall : ∀ v ∈ L, Sort1 v ∧ Asc v := by have := J1.out; rwa [hke] at this
              have hsE := HSG.out
              have htE := HTG.out
              rw [hke] at hsE htE
              have hmS : mvTokens tg = mvTokens sg := by rw [hsE, htE]; exact (gtx_law [] (.inl rfl) (ptb pts) fun v hv => (hall v hv).1).symm
              have hasS : Asc sg := by rw [hsE]; exact gtx_asc (fun c hc => by simp at hc) _ fun v hv => (hall v hv).2
              have hasT : Asc tg := by rw [htE]; exact gtx_asc (fun c hc => by simp at hc; subst hc; decide) _ fun v hv => (hall v hv).2
              have hnS : Nums (WB ^ K) sg := by rw [hsE]; exact nums_runs (Nat.pow_pos WB_pos) (runs_gtx HK.out [] (.inl rfl) _ fun v hv => ⟨(hall v hv).1, HS1.out v hv⟩)
              have hnT : Nums (WB ^ K) tg := by rw [htE]; exact nums_runs (Nat.pow_pos WB_pos) (runs_gtx HK.out [45] (.inr rfl) _ fun v hv => ⟨(hall v hv).1, HS1.out v hv⟩)
              have h21 := mparse_any K HHI.out sg (by omega) hasS hnS wr (HE.out.below J2.out)
              have h22 : ∀ w', Below wo.heap.size wo w' → Calls Tryz.prog 21 #[.string (str tg)] w' fun e w'' => ∃ v, e = .returned v ∧ Toks 40 w'' w'.heap.size v (mvTokens sg) ∧ Below w'.heap.size w' w'' := fun w' hB => by
                have h := mparse_any K HHI.out tg (by omega) hasT hnT w' (HE.out.below hB)
                rw [hmS] at h; exact h
              have hml : (mvTokens sg).length ≤ 1000000 := by have := mv_len sg; omega
              have hmp : 0 < (mvTokens sg).length := List.length_pos_iff.2 (mv_ne sg)
              obtain ⟨X, hX⟩ : ∃ X, X = mvTokens sg := ⟨_, rfl⟩
              rw [← hX] at h21 h22 hml hmp
              have H21 := Lib.hid h21
              have H22 := Lib.hid h22
              clear hke hall hsE htE hmS hasS hasT hnS hnT h21 h22 hX
              go_wp2_with fail
              (with_reducible refine (H21.out).mono ?_)
              rintro e w1 ⟨v1, rfl, hT, hB⟩
              obtain ⟨aa, ca, rfl⟩ := toks_form hT
              have HT := Lib.hid hT
              have HB1 := Lib.hid (J2.out.trans (hB.mono J2.out.size))
              have hmpi : (0 : Int) < (X.length : Int) := by omega
              clear hT hB
              go_wp2_with fail
              (with_reducible refine (H22.out w1 HB1.out).mono ?_)
              rintro e w2 ⟨v2, rfl, hT2, hB2⟩
              have htok := tokens_any _ _ _ _ _ _ w2 (HT.out.below hB2) hT2 hml hml
              rw [decide_eq_true rfl] at htok
              have HTO := Lib.hid htok
              have HB2 := Lib.hid (HB1.out.trans (hB2.mono HB1.out.size))
              clear hT2 hB2 htok
              go_wp2_with fail
              (with_reducible refine (HTO.out).mono ?_)
              rintro e w3 ⟨rfl, hB3⟩
              have HB3 := Lib.hid (HB2.out.trans (hB3.mono HB2.out.size))
              clear hB3
              go_wp2_with fail
              go_ret
              exact ⟨rfl, HB3.out⟩
    · have g3 : 2147483647 < pts.length := by omega
      rw [g1] at HFI
      clear g2 g1
      go_enter Tryz.func3, Tryz.ntmps3
      go_wp2_with fail
      (with_reducible refine (HFI.out).mono ?_)
      rintro e w1 ⟨rfl, rfl⟩
      go_wp2_with fail
      go_ret
      exact ⟨rfl, Below.refl _ _⟩
  · have g1 : fits2 L = false := by simpa using g1
    rw [g1] at HFI
    clear g1
    go_enter Tryz.func3, Tryz.ntmps3
    go_wp2_with fail
    (with_reducible refine (HFI.out).mono ?_)
    rintro e w1 ⟨rfl, rfl⟩
    go_wp2_with fail
    go_ret
    exact ⟨rfl, Below.refl _ _⟩
end Go.Proofs.Tz
