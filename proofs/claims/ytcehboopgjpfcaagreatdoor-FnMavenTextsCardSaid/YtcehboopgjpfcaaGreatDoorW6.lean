/- The walk of FnMavenParse: for numbers of up to K words. -/
import Derived.Test.YtcehboopgjpfcaaGreatDoorS13
import Derived.Test.YtcehboopgjpfcaaGreatDoorL8
import Derived.Test.YtcehboopgjpfcaaGreatDoorV2
namespace Go.Proofs.Tz
open Go.RowKit Mv

/-- Every short plain text has numbers of up to K words. -/
theorem short_nums {K : Nat} (hK : 10 ^ 1200 ≤ WB ^ K) {l : Bs} (hl : l.length ≤ 1200) : Nums (WB ^ K) l :=
  nums_runs (Nat.pow_pos WB_pos) (runs_len (Nat.le_trans (Nat.pow_le_pow_right (by decide) hl) hK))

set_option maxHeartbeats 4000000 in
set_option maxRecDepth 100000 in
theorem parse_walk (K : Nat) (hK : 10 ^ 1200 ≤ WB ^ K) (HI : ItoaSaid K) (s : Bs) (w : World) (hE : EnvL w) (hcl : s.length ≤ 9223372036854775807) :
    Calls Tryz.prog 6 #[.string (str s)] w fun e w' => e = .returned (.bool true) ∧ Below w.heap.size w w' := by
  have hss := str_size
  by_cases g1 : s.length ≤ 2147483647
  · have HE := Lib.hid hE
    have HHI := Lib.hid HI
    have HK := Lib.hid hK
    clear hE HI hK
    obtain ⟨wa, hwa⟩ : ∃ x, w.alloc (Obj.cells #[Value.string (str s)] 9) = x := ⟨_, rfl⟩
    have hB0 : Below w.heap.size w wa := by rw [← hwa]; exact (Below.refl _ _).alloc (Nat.le_refl _) _
    have HB0 := Lib.hid hB0
    have hrs : RowS wa (some ⟨w.heap.size, 0, none⟩) [s] := by
      have hA : Arr wa w.heap.size 9 [.string (str s)] := by rw [← hwa]; exact Arr.new _ _ _
      intro i x hi
      match i with
      | 0 => injection hi with hi; subst hi; exact ⟨_, 0, rfl, hA.cell (j := 0) rfl⟩
      | i + 1 => simp at hi
    have hsh : Calls Tryz.prog 17 #[.slice (some ⟨w.heap.size, 0, none⟩) 1 1] wa fun e w' => e = .returned (.bool (shortB [s])) ∧ wa = w' :=
      short_any (some ⟨w.heap.size, 0, none⟩) 1 [s] (by simp) _ hrs
    have HSH := Lib.hid hsh
    clear hB0 hrs hsh
    go_enter Tryz.func6, Tryz.ntmps6
    go_wp2_with fail
    clear hwa
    (with_reducible refine (HSH.out).mono ?_)
    rintro e w1 ⟨rfl, rfl⟩
    by_cases hs : shortB [s] = true
    · have hs3 : s.length ≤ 1200 := by
        simp only [shortB, Bool.and_eq_true, List.all_eq_true, decide_eq_true_eq] at hs
        exact hs.1 s (by simp)
      go_wp2_with fail
      (with_reducible refine (textKnown26 s (by omega) _).mono ?_)
      rintro e w2 ⟨rfl, hB2⟩
      have HB2 := Lib.hid (HB0.out.trans (hB2.mono HB0.out.size))
      clear hB2
      cases hk : tkn s with
      | false =>
        go_wp2_with fail
        go_ret
        exact ⟨rfl, HB2.out⟩
      | true =>
        have hasc : Asc s := by
          unfold tkn at hk
          simp only [Bool.and_eq_true] at hk
          exact (isAsc_iff s).1 hk.1
        have h21 := mparse_any K HHI.out s (by omega) hasc (short_nums HK.out hs3) w2 (HE.out.below HB2.out)
        have H21 := Lib.hid h21
        have H27 := Lib.hid fun w => sparse27 s (by omega) w
        have hml : (mvTokens s).length ≤ 1000000 := by have := mv_len s; omega
        clear h21 hasc
        go_wp2_with fail
        (with_reducible refine (H21.out).mono ?_)
        rintro e w3 ⟨v, rfl, hT, hB⟩
        have HT := Lib.hid hT
        have HB3 := Lib.hid (HB2.out.trans (hB.mono HB2.out.size))
        clear hT hB
        go_wp2_with fail
        (with_reducible refine (H27.out _).mono ?_)
        rintro e w4 ⟨v4, rfl, hT4, hB4⟩
        have htok := tokens_any _ _ _ _ _ _ w4 (HT.out.below hB4) hT4 hml hml
        have HTO := Lib.hid htok
        have HB4 := Lib.hid (HB3.out.trans (hB4.mono HB3.out.size))
        clear hT4 hB4 htok
        go_wp2_with fail
        (with_reducible refine (HTO.out).mono ?_)
        rintro e w5 ⟨rfl, hB5⟩
        have HB5 := Lib.hid (HB4.out.trans (hB5.mono HB4.out.size))
        clear hB5
        go_wp2_with fail
        go_ret
        exact ⟨rfl, HB5.out⟩
    · have hs : shortB [s] = false := by simpa using hs
      go_wp2_with fail
      go_ret
      exact ⟨rfl, HB0.out⟩
  · have p3 : 2147483647 < s.length := by omega
    clear g1
    go_enter Tryz.func6, Tryz.ntmps6
    go_wp2_with fail
    go_ret
    exact ⟨rfl, Below.refl _ _⟩
end Go.Proofs.Tz
