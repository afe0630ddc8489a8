/- The walk of FnMavenBack: for numbers of up to K words. -/
import Derived.Test.YtcehboopgjpfcaaGreatDoorW13
import Derived.Test.YtcehboopgjpfcaaGreatDoorS15
namespace Go.Proofs.Tz
open Go.RowKit Mv

set_option maxHeartbeats 8000000 in
set_option maxRecDepth 100000 in
theorem back_walk (K : Nat) (hK : 10 ^ 1200 ≤ WB ^ K) (HI : ItoaSaid K) (s : Bs) (w : World) (hE : EnvL w) (hKw : KwAt w) (hcl : s.length ≤ 9223372036854775807) :
    Calls Tryz.prog 11 #[.string (str s)] w fun e w' => e = .returned (.bool true) ∧ Below w.heap.size w w' := by
  have hss := str_size
  by_cases g1 : s.length ≤ 2147483647
  · have HE := Lib.hid hE
    have HKw := Lib.hid hKw
    have HHI := Lib.hid HI
    have HK := Lib.hid hK
    clear hE hKw HI hK
    obtain ⟨wa, hwa⟩ : ∃ x, w.alloc (Obj.cells #[Value.string (str s)] 9) = x := ⟨_, rfl⟩
    have hB0 : Below w.heap.size w wa := by rw [← hwa]; exact (Below.refl _ _).alloc (Nat.le_refl _) _
    have HB0 := Lib.hid hB0
    have hrs : RowS wa (some ⟨w.heap.size, 0, none⟩) [s] := by
      have hA : Arr wa w.heap.size 9 [.string (str s)] := by rw [← hwa]; exact Arr.new _ _ _
      intro i x hi
      match i with
      | 0 => injection hi with hi; subst hi; exact ⟨_, 0, rfl, hA.cell (j := 0) rfl⟩
      | i + 1 => simp at hi
    have hsh : Calls Tryz.prog 17 #[.slice (some ⟨w.heap.size, 0, none⟩) 1 1] wa fun e w' => e = .returned (.bool (shortB [s])) ∧ wa = w' :=
      short_any (some ⟨w.heap.size, 0, none⟩) 1 [s] (by simp) _ hrs
    have HSH := Lib.hid hsh
    clear hB0 hrs hsh
    go_enter Tryz.func11, Tryz.ntmps11
    go_wp2_with fail
    clear hwa
    (with_reducible refine (HSH.out).mono ?_)
    rintro e w1 ⟨rfl, rfl⟩
    by_cases hs : shortB [s] = true
    · have hs3 : s.length ≤ 1200 := by
        simp only [shortB, Bool.and_eq_true, List.all_eq_true, decide_eq_true_eq] at hs
        exact hs.1 s (by simp)
      go_wp2_with fail
      (with_reducible refine (textKnown26 s (by omega) _).mono ?_)
      rintro e w2 ⟨rfl, hB2⟩
      have HB2 := Lib.hid (HB0.out.trans (hB2.mono HB0.out.size))
      clear hB2
      cases hk : tkn s with
      | false =>
        go_wp2_with fail
        go_ret
        exact ⟨rfl, HB2.out⟩
      | true =>
        unfold tkn at hk
        simp only [Bool.and_eq_true] at hk
        have hasc : Asc s := (isAsc_iff s).1 hk.1
        have HKN := Lib.hid hk.2
        have HASC := Lib.hid hasc
        have h21 := mparse_any K HHI.out s (by omega) hasc (short_nums HK.out hs3) w2 (HE.out.below HB2.out)
        have H21 := Lib.hid h21
        have H27 := Lib.hid fun w => sparse27 s (by omega) w
        have hml : (mvTokens s).length ≤ 1000000 := by have := mv_len s; omega
        have hm0 : 0 < (mvTokens s).length := List.length_pos_iff.2 (mv_ne s)
        have hjl : (joinT (mvTokens s)).length ≤ 100000 := by have := mv_join s; omega
        clear h21 hasc hk
        go_wp2_with fail
        (with_reducible refine (H21.out).mono ?_)
        rintro e w3 ⟨v, rfl, hT, hB⟩
        have hj := joined35 v (mvTokens s) _ w3 hT (mv_ne s) (by omega) hml
        obtain ⟨av, cv, hv⟩ := toks_form hT
        subst hv
        have HJN := Lib.hid hj
        have HT := Lib.hid hT
        have HB3 := Lib.hid (HB2.out.trans (hB.mono HB2.out.size))
        clear hT hB hj
        go_wp2_with fail
        (with_reducible refine (HJN.out).mono ?_)
        rintro e w4 ⟨rfl, hB4⟩
        have HT4 := Lib.hid (HT.out.below hB4)
        have HB4 := Lib.hid (HB3.out.trans (hB4.mono HB3.out.size))
        clear hB4
        obtain ⟨n, hn⟩ : ∃ n, (mvTokens s).length = n + 1 := ⟨(mvTokens s).length - 1, by omega⟩
        have hz : (((mvTokens s).length : Int) == 0) = false := beq_eq_false_iff_ne.2 (by omega)
        cases hfu : full (mvTokens s) with
        | false =>
          have HTX := HT4
          have HBX := HB4
          clear hn
          go_wp2_with fail
          (with_reducible refine (H27.out _).mono ?_)
          rintro e w5 ⟨v5, rfl, hT5, hB5⟩
          have htok := tokens_any _ _ _ _ _ _ w5 (HTX.out.below hB5) hT5 hml hml
          have HTO := Lib.hid htok
          have HB5 := Lib.hid (HBX.out.trans (hB5.mono HBX.out.size))
          clear hT5 hB5 htok
          go_wp2_with fail
          (with_reducible refine (HTO.out).mono ?_)
          rintro e w6 ⟨rfl, hB6⟩
          have HB6 := Lib.hid (HB5.out.trans (hB6.mono HB5.out.size))
          clear hB6
          go_wp2_with fail
          go_ret
          exact ⟨rfl, HB6.out⟩
        | true =>
          have hje : joinF (mvTokens s) = joinT (mvTokens s) := by rw [joinF, if_pos hfu]
          rw [hje]
          have hv : ∀ t ∈ mvTokens s, t.v ≠ [] := fun t ht => by simpa using List.all_eq_true.1 hfu t ht
          have HV := Lib.hid hv
          clear hn hje hfu hv
          go_wp2_with fail
          (with_reducible refine (textKnown26 (joinT (mvTokens s)) hjl _).mono ?_)
          rintro e w7 ⟨rfl, hB7⟩
          have HT7 := Lib.hid (HT4.out.below hB7)
          have HB7 := Lib.hid (HB4.out.trans (hB7.mono HB4.out.size))
          clear hB7
          cases hkt : tkn (joinT (mvTokens s)) with
          | false =>
            have HTX := HT7
            have HBX := HB7
            go_wp2_with fail
            (with_reducible refine (H27.out _).mono ?_)
            rintro e w5 ⟨v5, rfl, hT5, hB5⟩
            have htok := tokens_any _ _ _ _ _ _ w5 (HTX.out.below hB5) hT5 hml hml
            have HTO := Lib.hid htok
            have HB5 := Lib.hid (HBX.out.trans (hB5.mono HBX.out.size))
            clear hT5 hB5 htok
            go_wp2_with fail
            (with_reducible refine (HTO.out).mono ?_)
            rintro e w6 ⟨rfl, hB6⟩
            have HB6 := Lib.hid (HB5.out.trans (hB6.mono HB5.out.size))
            clear hB6
            go_wp2_with fail
            go_ret
            exact ⟨rfl, HB6.out⟩
          | true =>
            unfold tkn at hkt
            simp only [Bool.and_eq_true] at hkt
            have hascT : Asc (joinT (mvTokens s)) := (isAsc_iff _).1 hkt.1
            have hmb : mvTokens (joinT (mvTokens s)) = mvTokens s := mv_back HV.out
            have hn1 : Nums (WB ^ K) s := short_nums HK.out hs3
            have hn2 : Nums (WB ^ K) (joinT (mvTokens s)) := nums_raw (by
              rw [raw_back HV.out]
              intro t ht hd
              exact raw_nums hn1 t ((trimM_form (rawT s)).2.2.1 t (by rw [← mv_raw]; exact ht)) hd)
            have h34 := known34 _ (mvTokens s) _ w7 HT7.out hml (mv_ok s (by omega))
            rw [HKN.out] at h34
            have hct := fun w' (hb : Below w.heap.size w w') => mctext28 K HHI.out s (joinT (mvTokens s)) 0 w' (HE.out.below hb) (HKw.out.below hb) ⟨by omega, HASC.out, hn1⟩ ⟨hjl, hascT, hn2⟩ (by rw [hmb]; exact vcmp_self _)
            have hp2 := fun w' (hb : Below w.heap.size w w') => mparse_any K HHI.out (joinT (mvTokens s)) hjl hascT hn2 w' (HE.out.below hb)
            rw [hmb] at hp2
            have H34 := Lib.hid h34
            have HCT := Lib.hid hct
            have HP2 := Lib.hid hp2
            clear hkt hascT hmb hn1 hn2 h34 hct hp2
            go_wp2_with fail
            (with_reducible refine (H34.out).mono ?_)
            rintro e w8 ⟨rfl, hB8⟩
            have HT8 := Lib.hid (HT7.out.below hB8)
            have HB8 := Lib.hid (HB7.out.trans (hB8.mono HB7.out.size))
            clear hB8
            go_wp2_with fail
            (with_reducible refine (HCT.out _ HB8.out).mono ?_)
            rintro e w9 ⟨rfl, hB9⟩
            have HT9 := Lib.hid (HT8.out.below hB9)
            have HB9 := Lib.hid (HB8.out.trans (hB9.mono HB8.out.size))
            clear hB9
            go_wp2_with fail
            (with_reducible refine (HP2.out _ HB9.out).mono ?_)
            rintro e wt ⟨v5, rfl, hT5, hB5⟩
            have htok := tokens_any _ _ _ _ _ _ wt hT5 (HT9.out.below hB5) hml hml
            have HTO := Lib.hid htok
            have HB5 := Lib.hid (HB9.out.trans (hB5.mono HB9.out.size))
            clear hT5 hB5 htok
            go_wp2_with fail
            (with_reducible refine (HTO.out).mono ?_)
            rintro e wu ⟨rfl, hB6⟩
            have HB6 := Lib.hid (HB5.out.trans (hB6.mono HB5.out.size))
            clear hB6
            go_wp2_with fail
            go_ret
            exact ⟨by simp, HB6.out⟩
    · have hs : shortB [s] = false := by simpa using hs
      go_wp2_with fail
      go_ret
      exact ⟨rfl, HB0.out⟩
  · have p3 : 2147483647 < s.length := by omega
    clear g1
    go_enter Tryz.func11, Tryz.ntmps11
    go_wp2_with fail
    go_ret
    exact ⟨rfl, Below.refl _ _⟩
end Go.Proofs.Tz
