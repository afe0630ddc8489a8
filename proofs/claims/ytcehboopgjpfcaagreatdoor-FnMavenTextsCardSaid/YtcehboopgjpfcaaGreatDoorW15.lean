/- The walk of FnMavenTexts: for numbers of up to K words. -/
import Derived.Test.YtcehboopgjpfcaaGreatDoorW6
import Derived.Test.YtcehboopgjpfcaaGreatDoorF9
import Derived.Test.YtcehboopgjpfcaaGreatDoorS11
import Derived.Test.YtcehboopgjpfcaaGreatDoorS12
import Derived.Test.YtcehboopgjpfcaaGreatDoorN9
import Derived.Test.YtcehboopgjpfcaaGreatDoorS17
namespace Go.Proofs.Tz
open Go.RowKit Mv

set_option maxHeartbeats 8000000 in
set_option maxRecDepth 100000 in
theorem texts_walk (K : Nat) (hK : 10 ^ 1200 ≤ WB ^ K) (HI : ItoaSaid K) (a b : Bs) (w : World) (hE : EnvL w) (hKw : KwAt w) (ha : a.length ≤ 9223372036854775807) (hb : b.length ≤ 9223372036854775807) :
    Calls Tryz.prog 15 #[.string (str a), .string (str b)] w fun e w' => e = .returned (.bool true) ∧ Below w.heap.size w w' := by
  have hss := str_size
  by_cases g1 : a.length ≤ 2147483647
  · by_cases g2 : b.length ≤ 2147483647
    · have HE := Lib.hid hE
      have HKw := Lib.hid hKw
      have HHI := Lib.hid HI
      have HK := Lib.hid hK
      clear hE hKw HI hK
      obtain ⟨wa, hwa⟩ : ∃ x, w.alloc (Obj.cells #[Value.string (str a), Value.string (str b)] 9) = x := ⟨_, rfl⟩
      have hB0 : Below w.heap.size w wa := by rw [← hwa]; exact (Below.refl _ _).alloc (Nat.le_refl _) _
      have HB0 := Lib.hid hB0
      have row : ∀ w : World, RowS (w.alloc (Obj.cells #[Value.string (str a), Value.string (str b)] 9)) (some ⟨w.heap.size, 0, none⟩) [a, b] := by
        intro w
        have hA : Arr (w.alloc (Obj.cells #[Value.string (str a), Value.string (str b)] 9)) w.heap.size 9 [.string (str a), .string (str b)] := Arr.new _ _ _
        intro i s hi
        match i with
        | 0 => injection hi with hi; subst hi; exact ⟨_, 0, rfl, hA.cell (j := 0) rfl⟩
        | 1 => injection hi with hi; subst hi; exact ⟨_, 0, rfl, hA.cell (j := 1) rfl⟩
        | i + 2 => simp at hi
      have hsh : Calls Tryz.prog 17 #[.slice (some ⟨w.heap.size, 0, none⟩) 2 2] wa fun e w' => e = .returned (.bool (shortB [a, b])) ∧ wa = w' :=
        short_any (some ⟨w.heap.size, 0, none⟩) 2 [a, b] (by simp) _ (by rw [← hwa]; exact row w)
      have HSH := Lib.hid hsh
      clear hB0 hsh row
      go_enter Tryz.func15, Tryz.ntmps15
      go_wp2_with fail
      clear hwa
      (with_reducible refine (HSH.out).mono ?_)
      rintro e w1 ⟨rfl, rfl⟩
      by_cases hs : shortB [a, b] = true
      · have hs2 : a.length ≤ 1200 ∧ b.length ≤ 1200 := by
          simp only [shortB, Bool.and_eq_true, List.all_eq_true, decide_eq_true_eq] at hs
          exact ⟨hs.1 a (by simp), hs.1 b (by simp)⟩
        obtain ⟨hs3, hs4⟩ := hs2
        go_wp2_with fail
        (with_reducible refine (textKnown26 a (by omega) _).mono ?_)
        rintro e w2 ⟨rfl, hB2⟩
        have HB2 := Lib.hid (HB0.out.trans (hB2.mono HB0.out.size))
        clear hB2
        cases hka : tkn a with
        | false =>
          go_wp2_with fail
          go_ret
          exact ⟨rfl, HB2.out⟩
        | true =>
          have hka2 := hka
          unfold tkn at hka2
          simp only [Bool.and_eq_true] at hka2
          have HKA := Lib.hid hka2
          clear hka2 hka
          go_wp2_with fail
          (with_reducible refine (textKnown26 b (by omega) _).mono ?_)
          rintro e w3 ⟨rfl, hB3⟩
          have HB3 := Lib.hid (HB2.out.trans (hB3.mono HB2.out.size))
          clear hB3
          cases hkb : tkn b with
          | false =>
            go_wp2_with fail
            go_ret
            exact ⟨rfl, HB3.out⟩
          | true =>
            unfold tkn at hkb
            simp only [Bool.and_eq_true] at hkb
            have ascA : Asc a := (isAsc_iff a).1 HKA.out.1
            have ascB : Asc b := (isAsc_iff b).1 hkb.1
            obtain ⟨c, g2, g3, g4, _⟩ := vcmp_cmpS (vers_known HKA.out.2) (vers_known hkb.2)
            have g5 := vcmp_neg (vers_known HKA.out.2) (vers_known hkb.2) g3
            have xA : Txt (WB ^ K) a := ⟨by omega, ascA, short_nums HK.out hs3⟩
            have xB : Txt (WB ^ K) b := ⟨by omega, ascB, short_nums HK.out hs4⟩
            have lA : (mvTokens a).length ≤ 1000000 := by have := mv_len a; omega
            have lB : (mvTokens b).length ≤ 1000000 := by have := mv_len b; omega
            have k1 : ∀ w', Below w.heap.size w w' → Calls Tryz.prog 28 #[.string (str a), .string (str b)] w' fun e w'' => e = .returned (.tuple #[.int .i64 c, .bool true]) ∧ Below w'.heap.size w' w'' := fun w' hb =>
              mctext28 K HHI.out _ _ c w' (HE.out.below hb) (HKw.out.below hb) xA xB g3
            have k2 : ∀ w', Below w.heap.size w w' → Calls Tryz.prog 28 #[.string (str b), .string (str a)] w' fun e w'' => e = .returned (.tuple #[.int .i64 (-c), .bool true]) ∧ Below w'.heap.size w' w'' := fun w' hb =>
              mctext28 K HHI.out _ _ (-c) w' (HE.out.below hb) (HKw.out.below hb) xB xA g5
            have k3 : ∀ w', Below w.heap.size w w' → Calls Tryz.prog 21 #[.string (str a)] w' fun e w'' => ∃ v, e = .returned v ∧ Toks 40 w'' w'.heap.size v (mvTokens a) ∧ Below w'.heap.size w' w'' := fun w' hb =>
              mparse_any K HHI.out a xA.len xA.asc xA.nums w' (HE.out.below hb)
            have k4 : ∀ w', Below w.heap.size w w' → Calls Tryz.prog 21 #[.string (str b)] w' fun e w'' => ∃ v, e = .returned v ∧ Toks 40 w'' w'.heap.size v (mvTokens b) ∧ Below w'.heap.size w' w'' := fun w' hb =>
              mparse_any K HHI.out b xB.len xB.asc xB.nums w' (HE.out.below hb)
            have k5 : ∀ w', Calls Tryz.prog 27 #[.string (str a)] w' fun e w'' => ∃ v, e = .returned v ∧ Toks 40 w'' w'.heap.size v (mvTokens a) ∧ Below w'.heap.size w' w'' := fun w' => sparse27 a xA.len w'
            have k6 : ∀ w', Calls Tryz.prog 27 #[.string (str b)] w' fun e w'' => ∃ v, e = .returned v ∧ Toks 40 w'' w'.heap.size v (mvTokens b) ∧ Below w'.heap.size w' w'' := fun w' => sparse27 b xB.len w'
            have k7 : ∀ w' v1 v2 x y, Below w.heap.size w w' → Toks 40 w' x v1 (mvTokens a) → Toks 40 w' y v2 (mvTokens b) → Calls Tryz.prog 37 #[v1, v2] w' fun e w'' => e = .returned (.tuple #[.int .i64 c, .bool true]) ∧ Below w'.heap.size w' w'' := fun w' v1 v2 x y hb h1 h2 =>
              mcompare37 v1 v2 _ _ x y c w' (HE.out.below hb).env (HKw.out.below hb) h1 h2 lA lB (vok_mv a (by omega)) (vok_mv b (by omega)) g3
            have k8 : ∀ w' v1 v2 x y, Toks 40 w' x v1 (mvTokens a) → Toks 40 w' y v2 (mvTokens b) → Calls Tryz.prog 32 #[v1, v2] w' fun e w'' => e = .returned (.tuple #[.int .i64 c, .bool true]) ∧ Below w'.heap.size w' w'' := fun w' v1 v2 x y h1 h2 => by
              have h := compare32 v1 v2 _ _ x y w' h1 h2 lA lB (fun t ht => (mv_ok a (by omega) t ht).2) (fun t ht => (mv_ok b (by omega) t ht).2)
              rw [g2] at h; exact h
            have k9 : ∀ w' v1 x, Toks 40 w' x v1 (mvTokens a) → Calls Tryz.prog 34 #[v1] w' fun e w'' => e = .returned (.bool true) ∧ Below w'.heap.size w' w'' := fun w' v1 x h1 => by
              have h := known34 v1 _ x w' h1 lA (mv_ok a (by omega))
              rw [HKA.out.2] at h; exact h
            have k10 : ∀ w' v1 x, Toks 40 w' x v1 (mvTokens b) → Calls Tryz.prog 34 #[v1] w' fun e w'' => e = .returned (.bool true) ∧ Below w'.heap.size w' w'' := fun w' v1 x h1 => by
              have h := known34 v1 _ x w' h1 lB (mv_ok b (by omega))
              rw [hkb.2] at h; exact h
            have K1 := Lib.hid k1
            have K2 := Lib.hid k2
            have K3 := Lib.hid k3
            have K4 := Lib.hid k4
            have K5 := Lib.hid k5
            have K6 := Lib.hid k6
            have K7 := Lib.hid k7
            have K8 := Lib.hid k8
            have K9 := Lib.hid k9
            have K10 := Lib.hid k10
            have G4 := Lib.hid g4
            clear hkb ascA ascB g2 g3 g4 g5 xA xB lA lB k1 k2 k3 k4 k5 k6 k7 k8 k9 k10
            go_wp2_with fail
            (with_reducible refine (K5.out _).mono ?_)
            rintro e w4 ⟨v1, rfl, hT1, hB4⟩
            have HB4 := Lib.hid (HB3.out.trans (hB4.mono HB3.out.size))
            have HT1 := Lib.hid hT1
            clear hT1 hB4
            go_wp2_with fail
            (with_reducible refine (K6.out _).mono ?_)
            rintro e w5 ⟨v2, rfl, hT2, hB5⟩
            have HB5 := Lib.hid (HB4.out.trans (hB5.mono HB4.out.size))
            have HT1 := Lib.hid (HT1.out.below hB5)
            have HT2 := Lib.hid hT2
            have H1 := Lib.hid (K9.out w5 v1 _ HT1.out)
            clear hT2 hB5
            go_wp2_with fail
            (with_reducible refine (H1.out).mono ?_)
            rintro e w6 ⟨rfl, hB6⟩
            have HB6 := Lib.hid (HB5.out.trans (hB6.mono HB5.out.size))
            have HT1 := Lib.hid (HT1.out.below hB6)
            have HT2 := Lib.hid (HT2.out.below hB6)
            have H1 := Lib.hid (K10.out w6 v2 _ HT2.out)
            clear hB6
            go_wp2_with fail
            (with_reducible refine (H1.out).mono ?_)
            rintro e w7 ⟨rfl, hB7⟩
            have HB7 := Lib.hid (HB6.out.trans (hB7.mono HB6.out.size))
            have HT1 := Lib.hid (HT1.out.below hB7)
            have HT2 := Lib.hid (HT2.out.below hB7)
            have H1 := Lib.hid (K8.out w7 v1 v2 _ _ HT1.out HT2.out)
            clear hB7
            go_wp2_with fail
            (with_reducible refine (H1.out).mono ?_)
            rintro e w8 ⟨rfl, hB8⟩
            have HB8 := Lib.hid (HB7.out.trans (hB8.mono HB7.out.size))
            have H1 := Lib.hid (K1.out w8 HB8.out)
            clear hB8
            go_wp2_with fail
            (with_reducible refine (H1.out).mono ?_)
            rintro e w9 ⟨rfl, hB9⟩
            have HB9 := Lib.hid (HB8.out.trans (hB9.mono HB8.out.size))
            have H1 := Lib.hid (K3.out w9 HB9.out)
            clear hB9
            go_wp2_with fail
            (with_reducible refine (H1.out).mono ?_)
            rintro e w10 ⟨v3, rfl, hT3, hB10⟩
            have HB10 := Lib.hid (HB9.out.trans (hB10.mono HB9.out.size))
            have HT3 := Lib.hid hT3
            have H1 := Lib.hid (K4.out w10 HB10.out)
            clear hB10 hT3
            go_wp2_with fail
            (with_reducible refine (H1.out).mono ?_)
            rintro e w11 ⟨v4, rfl, hT4, hB11⟩
            have HB11 := Lib.hid (HB10.out.trans (hB11.mono HB10.out.size))
            have H1 := Lib.hid (K7.out w11 v3 v4 _ _ HB11.out (HT3.out.below hB11) hT4)
            clear hB11 hT4
            go_wp2_with fail
            (with_reducible refine (H1.out).mono ?_)
            rintro e w12 ⟨rfl, hB12⟩
            have HB12 := Lib.hid (HB11.out.trans (hB12.mono HB11.out.size))
            have H1 := Lib.hid (K2.out w12 HB12.out)
            clear hB12
            go_wp2_with fail
            (with_reducible refine (H1.out).mono ?_)
            rintro e w13 ⟨rfl, hB13⟩
            have HB13 := Lib.hid (HB12.out.trans (hB13.mono HB12.out.size))
            clear hB13
            go_wp2_with fail
            (with_reducible refine (turned33 c G4.out _).mono ?_)
            rintro e w14 ⟨rfl, rfl⟩
            go_wp2_with fail
            go_ret
            exact ⟨rfl, HB13.out⟩
      · have hs : shortB [a, b] = false := by simpa using hs
        go_wp2_with fail
        go_ret
        exact ⟨rfl, HB0.out⟩
    · have p3 : 2147483647 < b.length := by omega
      clear g2
      go_enter Tryz.func15, Tryz.ntmps15
      go_wp2_with fail
      go_ret
      exact ⟨rfl, Below.refl _ _⟩
  · have p3 : 2147483647 < a.length := by omega
    clear g1
    go_enter Tryz.func15, Tryz.ntmps15
    go_wp2_with fail
    go_ret
    exact ⟨rfl, Below.refl _ _⟩
end Go.Proofs.Tz
