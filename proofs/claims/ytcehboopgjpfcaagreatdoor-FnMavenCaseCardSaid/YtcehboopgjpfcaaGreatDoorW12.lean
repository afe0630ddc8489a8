/- The walk of FnMavenCase: for numbers of up to K words. -/
import Derived.Test.YtcehboopgjpfcaaGreatDoorW6
import Derived.Test.YtcehboopgjpfcaaGreatDoorF9
import Derived.Test.YtcehboopgjpfcaaGreatDoorS3
import Derived.Test.YtcehboopgjpfcaaGreatDoorS14
namespace Go.Proofs.Tz
open Go.RowKit Mv

theorem upper_len (l : Bs) : (upper l).length = l.length := by simp [upper]
theorem asc_upper {l : Bs} (h : Asc l) : Asc (upper l) := by
  intro c hc
  unfold upper at hc
  obtain ⟨x, hx, rfl⟩ := List.mem_map.1 hc
  have := h x hx
  by_cases hx : 97 ≤ x.toNat ∧ x.toNat ≤ 122
  · exact (up_val x hx.1 hx.2).2
  · rw [up_other x hx]; exact this

set_option maxHeartbeats 8000000 in
set_option maxRecDepth 100000 in
theorem case_walk (K : Nat) (hK : 10 ^ 1200 ≤ WB ^ K) (HI : ItoaSaid K) (a b : Bs) (w : World) (hE : EnvL w) (hKw : KwAt w) (ha : a.length ≤ 9223372036854775807) (hb : b.length ≤ 9223372036854775807) :
    Calls Tryz.prog 12 #[.string (str a), .string (str b)] w fun e w' => e = .returned (.bool true) ∧ Below w.heap.size w w' := by
  have hss := str_size
  by_cases g1 : a.length ≤ 2147483647
  · by_cases g2 : b.length ≤ 2147483647
    · have HE := Lib.hid hE
      have HKw := Lib.hid hKw
      have HHI := Lib.hid HI
      have HK := Lib.hid hK
      clear hE hKw HI hK
      obtain ⟨wa, hwa⟩ : ∃ x, w.alloc (Obj.cells #[Value.string (str a), Value.string (str b)] 9) = x := ⟨_, rfl⟩
      have hB0 : Below w.heap.size w wa := by rw [← hwa]; exact (Below.refl _ _).alloc (Nat.le_refl _) _
      have HB0 := Lib.hid hB0
      have row : ∀ w : World, RowS (w.alloc (Obj.cells #[Value.string (str a), Value.string (str b)] 9)) (some ⟨w.heap.size, 0, none⟩) [a, b] := by
        intro w
        have hA : Arr (w.alloc (Obj.cells #[Value.string (str a), Value.string (str b)] 9)) w.heap.size 9 [.string (str a), .string (str b)] := Arr.new _ _ _
        intro i s hi
        match i with
        | 0 => injection hi with hi; subst hi; exact ⟨_, 0, rfl, hA.cell (j := 0) rfl⟩
        | 1 => injection hi with hi; subst hi; exact ⟨_, 0, rfl, hA.cell (j := 1) rfl⟩
        | i + 2 => simp at hi
      have ROW := Lib.hid row
      have hsh : Calls Tryz.prog 17 #[.slice (some ⟨w.heap.size, 0, none⟩) 2 2] wa fun e w' => e = .returned (.bool (shortB [a, b])) ∧ wa = w' :=
        short_any (some ⟨w.heap.size, 0, none⟩) 2 [a, b] (by simp) _ (by rw [← hwa]; exact row w)
      have HSH := Lib.hid hsh
      clear hB0 hsh row
      go_enter Tryz.func12, Tryz.ntmps12
      go_wp2_with fail
      clear hwa
      (with_reducible refine (HSH.out).mono ?_)
      rintro e w1 ⟨rfl, rfl⟩
      by_cases hs : shortB [a, b] = true
      · have hs2 : a.length ≤ 1200 ∧ b.length ≤ 1200 := by
          simp only [shortB, Bool.and_eq_true, List.all_eq_true, decide_eq_true_eq] at hs
          exact ⟨hs.1 a (by simp), hs.1 b (by simp)⟩
        obtain ⟨hs3, hs4⟩ := hs2
        obtain ⟨wc, hwc⟩ : ∃ x, wa.alloc (Obj.cells #[Value.string (str a), Value.string (str b)] 9) = x := ⟨_, rfl⟩
        have hBc : Below w.heap.size w wc := by rw [← hwc]; exact HB0.out.alloc HB0.out.size _
        have hasc : Calls Tryz.prog 36 #[.slice (some ⟨wa.heap.size, 0, none⟩) 2 2] wc fun e w' => e = .returned (.bool ([a, b].all isAsc)) ∧ wc = w' :=
          ascii36 (some ⟨wa.heap.size, 0, none⟩) 2 [a, b] (by simp) (fun s hs => by simp at hs; rcases hs with rfl | rfl <;> omega) _ (by rw [← hwc]; exact ROW.out wa)
        have HAS := Lib.hid hasc
        have HBc := Lib.hid hBc
        clear hasc hBc
        go_wp2_with fail
        clear hwc
        (with_reducible refine (HAS.out).mono ?_)
        rintro e w1 ⟨rfl, rfl⟩
        cases hal : [a, b].all isAsc with
        | false =>
          go_wp2_with fail
          go_ret
          exact ⟨rfl, HBc.out⟩
        | true =>
          clear hal
          go_wp2_with fail
          (with_reducible refine (textKnown26 a (by omega) _).mono ?_)
          rintro e w2 ⟨rfl, hB2⟩
          have HB2 := Lib.hid (HBc.out.trans (hB2.mono HBc.out.size))
          clear hB2
          cases hka : tkn a with
          | false =>
            go_wp2_with fail
            go_ret
            exact ⟨rfl, HB2.out⟩
          | true =>
            have hka2 := hka
            unfold tkn at hka2
            simp only [Bool.and_eq_true] at hka2
            have HKA := Lib.hid hka2
            clear hka2 hka
            go_wp2_with fail
            (with_reducible refine (textKnown26 b (by omega) _).mono ?_)
            rintro e w3 ⟨rfl, hB3⟩
            have HB3 := Lib.hid (HB2.out.trans (hB3.mono HB2.out.size))
            clear hB3
            cases hkb : tkn b with
            | false =>
              go_wp2_with fail
              go_ret
              exact ⟨rfl, HB3.out⟩
            | true =>
              unfold tkn at hkb
              simp only [Bool.and_eq_true] at hkb
              have ascA : Asc a := (isAsc_iff a).1 HKA.out.1
              have ascB : Asc b := (isAsc_iff b).1 hkb.1
              have lu := upper_len a
              obtain ⟨c, _, g3, _, _⟩ := vcmp_cmpS (vers_known HKA.out.2) (vers_known hkb.2)
              have xA : Txt (WB ^ K) a := ⟨by omega, ascA, short_nums HK.out hs3⟩
              have xB : Txt (WB ^ K) b := ⟨by omega, ascB, short_nums HK.out hs4⟩
              have xU : Txt (WB ^ K) (upper a) := ⟨by omega, asc_upper ascA, short_nums HK.out (by omega)⟩
              have k1 : ∀ w', Below w.heap.size w w' → Calls Tryz.prog 28 #[.string (str a), .string (str (upper a))] w' fun e w'' => e = .returned (.tuple #[.int .i64 0, .bool true]) ∧ Below w'.heap.size w' w'' := fun w' hb =>
                mctext28 K HHI.out _ _ 0 w' (HE.out.below hb) (HKw.out.below hb) xA xU (by rw [mv_upper]; exact vcmp_self _)
              have k2 : ∀ w', Below w.heap.size w w' → Calls Tryz.prog 28 #[.string (str a), .string (str b)] w' fun e w'' => e = .returned (.tuple #[.int .i64 c, .bool true]) ∧ Below w'.heap.size w' w'' := fun w' hb =>
                mctext28 K HHI.out _ _ c w' (HE.out.below hb) (HKw.out.below hb) xA xB g3
              have k3 : ∀ w', Below w.heap.size w w' → Calls Tryz.prog 28 #[.string (str (upper a)), .string (str b)] w' fun e w'' => e = .returned (.tuple #[.int .i64 c, .bool true]) ∧ Below w'.heap.size w' w'' := fun w' hb =>
                mctext28 K HHI.out _ _ c w' (HE.out.below hb) (HKw.out.below hb) xU xB (by rw [mv_upper]; exact g3)
              have k4 : ∀ w', Calls Tryz.prog 20 #[.string (str a)] w' fun e w'' => e = .returned (.string (str (upper a))) ∧ w' = w'' := fun w' => great_any a (by omega) ascA w'
              have k5 : ∀ w', Below w.heap.size w w' → Calls Tryz.prog 21 #[.string (str a)] w' fun e w'' => ∃ v, e = .returned v ∧ Toks 40 w'' w'.heap.size v (mvTokens a) ∧ Below w'.heap.size w' w'' := fun w' hb =>
                mparse_any K HHI.out a xA.len xA.asc xA.nums w' (HE.out.below hb)
              have k6 : ∀ w', Below w.heap.size w w' → Calls Tryz.prog 21 #[.string (str (upper a))] w' fun e w'' => ∃ v, e = .returned v ∧ Toks 40 w'' w'.heap.size v (mvTokens a) ∧ Below w'.heap.size w' w'' := fun w' hb => by
                have h := mparse_any K HHI.out (upper a) xU.len xU.asc xU.nums w' (HE.out.below hb)
                rw [mv_upper] at h; exact h
              have hml : (mvTokens a).length ≤ 1000000 := by have := mv_len a; omega
              have K1 := Lib.hid k1
              have K2 := Lib.hid k2
              have K3 := Lib.hid k3
              have K4 := Lib.hid k4
              have K5 := Lib.hid k5
              have K6 := Lib.hid k6
              clear hkb ascA ascB g3 xA xB xU k1 k2 k3 k4 k5 k6
              go_wp2_with fail
              (with_reducible refine (K4.out _).mono ?_)
              rintro e w4 ⟨rfl, rfl⟩
              have H1 := Lib.hid (K1.out w3 HB3.out)
              go_wp2_with fail
              (with_reducible refine (H1.out).mono ?_)
              rintro e w5 ⟨rfl, hB5⟩
              have HB5 := Lib.hid (HB3.out.trans (hB5.mono HB3.out.size))
              have H1 := Lib.hid (K2.out w5 HB5.out)
              clear hB5
              go_wp2_with fail
              (with_reducible refine (H1.out).mono ?_)
              rintro e w6 ⟨rfl, hB6⟩
              have HB6 := Lib.hid (HB5.out.trans (hB6.mono HB5.out.size))
              have H1 := Lib.hid (K3.out w6 HB6.out)
              clear hB6
              go_wp2_with fail
              (with_reducible refine (K4.out _).mono ?_)
              rintro e w4 ⟨rfl, rfl⟩
              go_wp2_with fail
              (with_reducible refine (H1.out).mono ?_)
              rintro e w7 ⟨rfl, hB7⟩
              have HB7 := Lib.hid (HB6.out.trans (hB7.mono HB6.out.size))
              have H1 := Lib.hid (K5.out w7 HB7.out)
              clear hB7
              go_wp2_with fail
              (with_reducible refine (H1.out).mono ?_)
              rintro e w8 ⟨v8, rfl, hT8, hB8⟩
              have HB8 := Lib.hid (HB7.out.trans (hB8.mono HB7.out.size))
              have HT8 := Lib.hid hT8
              have H1 := Lib.hid (K6.out w8 HB8.out)
              clear hB8 hT8
              go_wp2_with fail
              (with_reducible refine (K4.out _).mono ?_)
              rintro e w4 ⟨rfl, rfl⟩
              go_wp2_with fail
              (with_reducible refine (H1.out).mono ?_)
              rintro e w9 ⟨v9, rfl, hT9, hB9⟩
              have htok := tokens_any _ _ _ _ _ _ w9 (HT8.out.below hB9) hT9 hml hml
              have HTO := Lib.hid htok
              have HB9 := Lib.hid (HB8.out.trans (hB9.mono HB8.out.size))
              clear hB9 hT9 htok
              go_wp2_with fail
              (with_reducible refine (HTO.out).mono ?_)
              rintro e w10 ⟨rfl, hB10⟩
              have HB10 := Lib.hid (HB9.out.trans (hB10.mono HB9.out.size))
              clear hB10
              go_wp2_with fail
              go_ret
              exact ⟨by simp, HB10.out⟩
      · have hs : shortB [a, b] = false := by simpa using hs
        go_wp2_with fail
        go_ret
        exact ⟨rfl, HB0.out⟩
    · have p3 : 2147483647 < b.length := by omega
      clear g2
      go_enter Tryz.func12, Tryz.ntmps12
      go_wp2_with fail
      go_ret
      exact ⟨rfl, Below.refl _ _⟩
  · have p3 : 2147483647 < a.length := by omega
    clear g1
    go_enter Tryz.func12, Tryz.ntmps12
    go_wp2_with fail
    go_ret
    exact ⟨rfl, Below.refl _ _⟩
end Go.Proofs.Tz
