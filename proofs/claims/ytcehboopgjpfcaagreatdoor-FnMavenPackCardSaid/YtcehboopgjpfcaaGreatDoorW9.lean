/- The walk of FnMavenPack. -/
import Derived.Test.YtcehboopgjpfcaaGreatDoorF9
import Derived.Test.YtcehboopgjpfcaaGreatDoorV3
import Derived.Test.YtcehboopgjpfcaaGreatDoorS11
import Derived.Test.YtcehboopgjpfcaaGreatDoorS12
import Derived.Test.YtcehboopgjpfcaaGreatDoorL9
namespace Go.Proofs.Mv
open Go.Proofs.Tz (pOk)
/-- Zeros with points ahead. -/
def zt : Nat → Bs
  | 0 => []
  | k + 1 => zt k ++ [46, 48]
theorem zt_len : ∀ k, (zt k).length = 2 * k
  | 0 => rfl
  | k + 1 => by rw [zt, List.length_append, zt_len k]; simp; omega
theorem zt_num {ns : List Nat} (h0 : ns ≠ []) : ∀ k, numTxt ns ++ zt k = numTxt (ns ++ List.replicate k 0)
  | 0 => by simp [zt]
  | k + 1 => by
    rw [zt, ← List.append_assoc, zt_num h0 k, List.replicate_succ', ← List.append_assoc, numTxt_snoc 0 _ (by simp [h0]), dec_lt (by decide)]; rfl
theorem mv_zt {ns : List Nat} (h0 : ns ≠ []) (k : Nat) : mvTokens (numTxt ns ++ zt k) = mvTokens (numTxt ns) := by
  obtain ⟨a, z, rfl, ha⟩ := tz_form ns h0
  rw [zt_num h0 k, mv_num (fun e => h0 (List.append_eq_nil_iff.1 e).1), mv_num h0, List.append_assoc, List.replicate_append_replicate, trimM_num ha, trimM_num ha]
theorem tail_zt {V : Nat} (hV : 10 ^ 6 ≤ V) {k : Nat} (hk : k ≤ 3) : Tail V (zt k) := by
  have hl := zt_len k
  refine ⟨runs_len (Nat.le_trans (Nat.pow_le_pow_right (by decide) (by omega)) hV), ?_, ?_, by omega⟩
  · match k, hk with
    | 0, _ => intro c h; simp [zt] at h
    | 1, _ => intro c h; simp [zt] at h; subst h; decide
    | 2, _ => intro c h; simp [zt] at h; subst h; decide
    | 3, _ => intro c h; simp [zt] at h; subst h; decide
  · match k, hk with
    | 0, _ => exact asc_lit (by decide)
    | 1, _ => exact asc_lit (by decide)
    | 2, _ => exact asc_lit (by decide)
    | 3, _ => exact asc_lit (by decide)
theorem numToks_ok : ∀ (l : List Nat) (p : Bs), pOk p → (∀ n ∈ l, n < 10 ^ 15) → ∀ t ∈ numToks p l, pOk t.p ∧ t.v.length ≤ 1000000
  | [], _, _, _, t, h => by simp [numToks] at h
  | n :: r, p, hp, hn, t, h => by
    rcases List.mem_cons.1 h with rfl | h
    · refine ⟨hp, ?_⟩
      have := Go.Proofs.Tz.dec_len_pow 14 n (hn n (by simp))
      show (dec n).length ≤ _
      omega
    · exact numToks_ok r [46] (.inr (.inl rfl)) (fun m hm => hn m (by simp [hm])) t h
theorem mvnum_ok {l : List Nat} (hl : l ≠ []) (hn : ∀ n ∈ l, n < 10 ^ 15) : ∀ t ∈ mvTokens (numTxt l), pOk t.p ∧ t.v.length ≤ 1000000 := fun t ht => by
  have := (trimM_form (rawT (numTxt l))).2.2.1 t (by rw [← mv_raw]; exact ht)
  rw [raw_num hl] at this
  exact numToks_ok l [] (.inl rfl) hn t this
theorem mvpack_ok {l : List Nat} (hl : l ≠ []) (hn : ∀ n ∈ l, n < 10 ^ 15) {d : UInt8} (hd : isMark d = true) (hd2 : pOk [d]) : ∀ t ∈ mvTokens (numTxt l ++ d :: sSp), pOk t.p ∧ t.v.length ≤ 1000000 := fun t ht => by
  have := (trimM_form (rawT (numTxt l ++ d :: sSp))).2.2.1 t (by rw [← mv_raw]; exact ht)
  rw [rawT_mark hd, raw_num hl, tokL_hom (q := sSp) (b := false) (hom_lit (by decide)), nv_sp] at this
  rcases List.mem_append.1 this with h | h
  · exact numToks_ok l [] (.inl rfl) hn t h
  · simp at h; subst h; exact ⟨hd2, by show sSp.length ≤ _; decide⟩
end Go.Proofs.Mv
namespace Go.Proofs.Tz
open Go.RowKit Mv

set_option maxHeartbeats 1000000 in
theorem turned33 (c : Int) (hc : c = -1 ∨ c = 0 ∨ c = 1) (w : World) : Calls Tryz.prog 33 #[.int .i64 c, .int .i64 (-c)] w fun e w' => e = .returned (.bool true) ∧ w = w' := by
  rcases hc with rfl | rfl | rfl
  all_goals
    go_enter Tryz.func33, Tryz.ntmps33
    go_wp2_with fail
    go_ret
    exact ⟨rfl, rfl⟩

set_option maxHeartbeats 16000000 in
set_option maxRecDepth 100000 in
theorem pack_walk (K : Nat) (hK : 1 ≤ K) (HI : ItoaSaid K) (core : Bs) (pt : Bool) (zz : Nat) (hzz : zz < 256) (w : World) (hE : EnvL w) (hKw : KwAt w) (hcl : core.length ≤ 9223372036854775807) :
    Calls Tryz.prog 9 #[.string (str core), .bool pt, .int .u8 (zz : Int)] w fun e w' => e = .returned (.bool true) ∧ Below w.heap.size w w' := by
  have hss := str_size
  by_cases g1 : core.length ≤ 2147483647
  · have HE := Lib.hid hE
    have HKw := Lib.hid hKw
    have HHI := Lib.hid HI
    clear hE hKw HI
    obtain ⟨wa, hwa⟩ : ∃ x, w.alloc (Obj.cells #[Value.string (str core)] 9) = x := ⟨_, rfl⟩
    have hB0 : Below w.heap.size w wa := by rw [← hwa]; exact (Below.refl _ _).alloc (Nat.le_refl _) _
    have HB0 := Lib.hid hB0
    have hrs : RowS wa (some ⟨w.heap.size, 0, none⟩) [core] := by
      have hA : Arr wa w.heap.size 9 [.string (str core)] := by rw [← hwa]; exact Arr.new _ _ _
      intro i s hi
      match i with
      | 0 => injection hi with hi; subst hi; exact ⟨_, 0, rfl, hA.cell (j := 0) rfl⟩
      | i + 1 => simp at hi
    have hsh : Calls Tryz.prog 17 #[.slice (some ⟨w.heap.size, 0, none⟩) 1 1] wa fun e w' => e = .returned (.bool (shortB [core])) ∧ wa = w' :=
      short_any (some ⟨w.heap.size, 0, none⟩) 1 [core] (by simp) _ hrs
    have HSH := Lib.hid hsh
    clear hB0 hrs hsh
    go_enter Tryz.func9, Tryz.ntmps9
    go_wp2_with fail
    clear hwa
    (with_reducible refine (HSH.out).mono ?_)
    rintro e w1 ⟨rfl, rfl⟩
    by_cases hs : shortB [core] = true
    · have hs3 : core.length ≤ 1200 := by
        simp only [shortB, Bool.and_eq_true, List.all_eq_true, decide_eq_true_eq] at hs
        exact hs.1 core (by simp)
      go_wp2_with fail
      have hnb : Calls Tryz.prog 23 #[.string (str core), .int .i64 8] wa (NumbPost core 8 wa) := numbered_any core (by omega) 8 (by decide) _
      (with_reducible refine hnb.mono ?_)
      rintro e w1 ⟨b, rfl, hb, rfl⟩
      clear hnb
      cases b
      · clear hb
        go_wp2_with fail
        go_ret
        exact ⟨rfl, HB0.out⟩
      · obtain ⟨ns, hns, hcore, _, hn15⟩ := hb rfl
        clear hb
        have HNS := Lib.hid hns
        have HCO := Lib.hid hcore
        have HN15 := Lib.hid hn15
        clear hns hcore hn15
        go_wp2_with fail
        go_loop [7, 8] (fun s k => ∃ j : Nat, s = .string (str (core ++ zt j)) ∧ k = .int .i64 (j : Int) ∧ j ≤ zz % 4) (fun _ k => zz % 4 - (intOf k).toNat)
        case atStart => exact ⟨0, by simp [zt], rfl, Nat.zero_le _⟩
        case round =>
          obtain ⟨j, rfl, rfl, hj⟩ := hrel
          have hz4 : zz % 4 ≤ 3 := by omega
          obtain ⟨sZ, hsZ⟩ : ∃ x, x = core ++ zt j := ⟨_, rfl⟩
          have hzl : sZ.length ≤ 1300 := by rw [hsZ, List.length_append, zt_len]; omega
          rw [← hsZ]
          have HSZ := Lib.hid hsZ
          clear hsZ
          by_cases hjl : j < zz % 4
          · have hm2 : (j : Int) < (zz : Int) % 4 := by omega
            go_wp2_with fail
            go_round
            case rel => exact ⟨j + 1, by rw [HSZ.out, zt, ← List.append_assoc]; exact congrArg Value.string (str_append _ [46, 48]), by go_num, by omega⟩
            case measure => simp [intOf]; omega
          · have hm2 : ¬ (j : Int) < (zz : Int) % 4 := by omega
            have hj3 : j ≤ 3 := by omega
            cases pt
            · have hV6 : 10 ^ 6 ≤ WB ^ K := Nat.le_trans (by decide : 10 ^ 6 ≤ WB) (by
                calc WB = WB ^ 1 := (Nat.pow_one _).symm
                  _ ≤ WB ^ K := Nat.pow_le_pow_right WB_pos hK)
              have hV0 : 0 < WB ^ K := Nat.pow_pos WB_pos
              have hV1 : 1 < WB ^ K := by omega
              have hns := HNS.out
              have hcore := HCO.out
              have hn15 := HN15.out
              have hd : isMark 45 = true := by decide
              obtain ⟨c, g2, g3, g4, _⟩ := vcmp_cmpS (vers_num hns) (vers_pack hns hd)
              have hnV : ∀ m ∈ ns, m < WB ^ K := fun m hm => big15 hK (hn15 m hm)
              have hcl2 : (numTxt ns).length ≤ 1200 := by rw [← hcore]; exact hs3
              have t1 := (tail_zt hV6 hj3).core hns hnV hcl2
              have t2 := (tail_lit hV0 45 sSp (by decide) (by decide) (by decide)).core hns hnV hcl2
              have t3 : Runs (WB ^ K) (numTxt ns ++ [46, 49]) ∧ Asc (numTxt ns ++ [46, 49]) ∧ (numTxt ns ++ [46, 49]).length ≤ 100000 :=
                Tail.core ⟨runs_cons hV0 (by decide) (runs_digits (by exact hV1)), fun x hx => by injection hx with hx; subst hx; decide, asc_lit (by decide), by decide⟩ hns hnV hcl2
              have hmz : mvTokens (numTxt ns ++ zt j) = mvTokens (numTxt ns) := mv_zt hns j
              have x1 : Txt (WB ^ K) sZ := by rw [HSZ.out, hcore]; exact ⟨t1.2.2, t1.2.1, nums_runs hV0 t1.1⟩
              have x2 : Txt (WB ^ K) (core ++ 45 :: sSp) := by rw [hcore]; exact ⟨t2.2.2, t2.2.1, nums_runs hV0 t2.1⟩
              have x3 : Txt (WB ^ K) (core ++ [46, 49]) := by rw [hcore]; exact ⟨t3.2.2, t3.2.1, nums_runs hV0 t3.1⟩
              have e2 : str core ++ ⟨#[45, 115, 112]⟩ = str (core ++ 45 :: sSp) := str_append core (45 :: sSp)
              have e3 : str core ++ ⟨#[46, 49]⟩ = str (core ++ [46, 49]) := str_append core [46, 49]
              have k1 : ∀ w', Below w.heap.size w w' → Calls Tryz.prog 28 #[.string (str sZ), .string (str core ++ ⟨#[45, 115, 112]⟩)] w' fun e w'' => e = .returned (.tuple #[.int .i64 c, .bool true]) ∧ Below w'.heap.size w' w'' := fun w' hb => by
                rw [e2]
                refine mctext28 K HHI.out _ _ c w' (HE.out.below hb) (HKw.out.below hb) x1 x2 ?_
                rw [HSZ.out, hcore, hmz]; exact g3
              have k2 : ∀ w', Below w.heap.size w w' → Calls Tryz.prog 28 #[.string (str core ++ ⟨#[45, 115, 112]⟩), .string (str sZ)] w' fun e w'' => e = .returned (.tuple #[.int .i64 (-c), .bool true]) ∧ Below w'.heap.size w' w'' := fun w' hb => by
                rw [e2]
                refine mctext28 K HHI.out _ _ (-c) w' (HE.out.below hb) (HKw.out.below hb) x2 x1 ?_
                rw [HSZ.out, hcore, hmz]; exact vcmp_neg (vers_num hns) (vers_pack hns hd) g3
              have k3 : ∀ w', Below w.heap.size w w' → Calls Tryz.prog 28 #[.string (str core ++ ⟨#[45, 115, 112]⟩), .string (str core ++ ⟨#[46, 49]⟩)] w' fun e w'' => e = .returned (.tuple #[.int .i64 (-1), .bool true]) ∧ Below w'.heap.size w' w'' := fun w' hb => by
                rw [e2, e3]
                refine mctext28 K HHI.out _ _ (-1) w' (HE.out.below hb) (HKw.out.below hb) x2 x3 ?_
                rw [hcore]; exact pack_less hns hd
              have k4 : ∀ w', Calls Tryz.prog 27 #[.string (str core ++ ⟨#[45, 115, 112]⟩)] w' fun e w'' => ∃ v, e = .returned v ∧ Toks 40 w'' w'.heap.size v (mvTokens (core ++ 45 :: sSp)) ∧ Below w'.heap.size w' w'' := fun w' => by
                rw [e2]; exact sparse27 _ x2.len w'
              have k5 : ∀ w', Calls Tryz.prog 27 #[.string (str core)] w' fun e w'' => ∃ v, e = .returned v ∧ Toks 40 w'' w'.heap.size v (mvTokens core) ∧ Below w'.heap.size w' w'' := fun w' => sparse27 _ (by omega) w'
              have okA : ∀ t ∈ mvTokens core, pOk t.p ∧ t.v.length ≤ 1000000 := by rw [hcore]; exact mvnum_ok hns hn15
              have okB : ∀ t ∈ mvTokens (core ++ 45 :: sSp), pOk t.p ∧ t.v.length ≤ 1000000 := by rw [hcore]; exact mvpack_ok hns hn15 hd (by unfold pOk; simp)
              have lA : (mvTokens core).length ≤ 1000000 := by have := mv_len core; omega
              have lB : (mvTokens (core ++ 45 :: sSp)).length ≤ 1000000 := by have h := mv_len (core ++ 45 :: sSp); have h2 := x2.len; omega
              have hcmp : cmpS (mvTokens core) (mvTokens (core ++ 45 :: sSp)) = (c, true) := by rw [hcore]; exact g2
              have K1 := Lib.hid k1
              have K2 := Lib.hid k2
              have K3 := Lib.hid k3
              have K4 := Lib.hid k4
              have K5 := Lib.hid k5
              have OKA := Lib.hid okA
              have OKB := Lib.hid okB
              have LA := Lib.hid lA
              have LB := Lib.hid lB
              have HCM := Lib.hid hcmp
              have G4 := Lib.hid g4
              clear hV6 hV0 hV1 hns hcore hn15 hd g2 g3 g4 hnV hcl2 t1 t2 t3 hmz x1 x2 x3 e2 e3 k1 k2 k3 k4 k5 okA okB lA lB hcmp
              go_wp2_with fail
              (with_reducible refine (K5.out _).mono ?_)
              rintro e w1 ⟨v1, rfl, hT1, hB1⟩
              have HB1 := Lib.hid (HB0.out.trans (hB1.mono HB0.out.size))
              have HT1 := Lib.hid hT1
              clear hT1 hB1
              go_wp2_with fail
              (with_reducible refine (K4.out _).mono ?_)
              rintro e w2 ⟨v2, rfl, hT2, hB2⟩
              have HB2 := Lib.hid (HB1.out.trans (hB2.mono HB1.out.size))
              have h32 := compare32 v1 v2 _ _ _ _ w2 (HT1.out.below hB2) hT2 LA.out LB.out OKA.out OKB.out
              rw [HCM.out] at h32
              unfold res2 at h32
              have H32 := Lib.hid h32
              clear hT2 hB2 h32
              go_wp2_with fail
              (with_reducible refine (H32.out).mono ?_)
              rintro e w3 ⟨rfl, hB3⟩
              have HB3 := Lib.hid (HB2.out.trans (hB3.mono HB2.out.size))
              have H28 := Lib.hid (K1.out w3 HB3.out)
              clear hB3
              go_wp2_with fail
              (with_reducible refine (H28.out).mono ?_)
              rintro e w4 ⟨rfl, hB4⟩
              have HB4 := Lib.hid (HB3.out.trans (hB4.mono HB3.out.size))
              have H28 := Lib.hid (K2.out w4 HB4.out)
              clear hB4
              go_wp2_with fail
              (with_reducible refine (H28.out).mono ?_)
              rintro e w5 ⟨rfl, hB5⟩
              have HB5 := Lib.hid (HB4.out.trans (hB5.mono HB4.out.size))
              have H28 := Lib.hid (K3.out w5 HB5.out)
              clear hB5
              go_wp2_with fail
              (with_reducible refine (H28.out).mono ?_)
              rintro e w6 ⟨rfl, hB6⟩
              have HB6 := Lib.hid (HB5.out.trans (hB6.mono HB5.out.size))
              clear hB6
              go_wp2_with fail
              (with_reducible refine (turned33 c G4.out _).mono ?_)
              rintro e w7 ⟨rfl, rfl⟩
              go_wp2_with fail
              go_ret
              exact ⟨rfl, HB6.out⟩
              
            · have hV6 : 10 ^ 6 ≤ WB ^ K := Nat.le_trans (by decide : 10 ^ 6 ≤ WB) (by
                calc WB = WB ^ 1 := (Nat.pow_one _).symm
                  _ ≤ WB ^ K := Nat.pow_le_pow_right WB_pos hK)
              have hV0 : 0 < WB ^ K := Nat.pow_pos WB_pos
              have hV1 : 1 < WB ^ K := by omega
              have hns := HNS.out
              have hcore := HCO.out
              have hn15 := HN15.out
              have hd : isMark 46 = true := by decide
              obtain ⟨c, g2, g3, g4, _⟩ := vcmp_cmpS (vers_num hns) (vers_pack hns hd)
              have hnV : ∀ m ∈ ns, m < WB ^ K := fun m hm => big15 hK (hn15 m hm)
              have hcl2 : (numTxt ns).length ≤ 1200 := by rw [← hcore]; exact hs3
              have t1 := (tail_zt hV6 hj3).core hns hnV hcl2
              have t2 := (tail_lit hV0 46 sSp (by decide) (by decide) (by decide)).core hns hnV hcl2
              have t3 : Runs (WB ^ K) (numTxt ns ++ [46, 49]) ∧ Asc (numTxt ns ++ [46, 49]) ∧ (numTxt ns ++ [46, 49]).length ≤ 100000 :=
                Tail.core ⟨runs_cons hV0 (by decide) (runs_digits (by exact hV1)), fun x hx => by injection hx with hx; subst hx; decide, asc_lit (by decide), by decide⟩ hns hnV hcl2
              have hmz : mvTokens (numTxt ns ++ zt j) = mvTokens (numTxt ns) := mv_zt hns j
              have x1 : Txt (WB ^ K) sZ := by rw [HSZ.out, hcore]; exact ⟨t1.2.2, t1.2.1, nums_runs hV0 t1.1⟩
              have x2 : Txt (WB ^ K) (core ++ 46 :: sSp) := by rw [hcore]; exact ⟨t2.2.2, t2.2.1, nums_runs hV0 t2.1⟩
              have x3 : Txt (WB ^ K) (core ++ [46, 49]) := by rw [hcore]; exact ⟨t3.2.2, t3.2.1, nums_runs hV0 t3.1⟩
              have e2 : str core ++ ⟨#[46, 115, 112]⟩ = str (core ++ 46 :: sSp) := str_append core (46 :: sSp)
              have e3 : str core ++ ⟨#[46, 49]⟩ = str (core ++ [46, 49]) := str_append core [46, 49]
              have k1 : ∀ w', Below w.heap.size w w' → Calls Tryz.prog 28 #[.string (str sZ), .string (str core ++ ⟨#[46, 115, 112]⟩)] w' fun e w'' => e = .returned (.tuple #[.int .i64 c, .bool true]) ∧ Below w'.heap.size w' w'' := fun w' hb => by
                rw [e2]
                refine mctext28 K HHI.out _ _ c w' (HE.out.below hb) (HKw.out.below hb) x1 x2 ?_
                rw [HSZ.out, hcore, hmz]; exact g3
              have k2 : ∀ w', Below w.heap.size w w' → Calls Tryz.prog 28 #[.string (str core ++ ⟨#[46, 115, 112]⟩), .string (str sZ)] w' fun e w'' => e = .returned (.tuple #[.int .i64 (-c), .bool true]) ∧ Below w'.heap.size w' w'' := fun w' hb => by
                rw [e2]
                refine mctext28 K HHI.out _ _ (-c) w' (HE.out.below hb) (HKw.out.below hb) x2 x1 ?_
                rw [HSZ.out, hcore, hmz]; exact vcmp_neg (vers_num hns) (vers_pack hns hd) g3
              have k3 : ∀ w', Below w.heap.size w w' → Calls Tryz.prog 28 #[.string (str core ++ ⟨#[46, 115, 112]⟩), .string (str core ++ ⟨#[46, 49]⟩)] w' fun e w'' => e = .returned (.tuple #[.int .i64 (-1), .bool true]) ∧ Below w'.heap.size w' w'' := fun w' hb => by
                rw [e2, e3]
                refine mctext28 K HHI.out _ _ (-1) w' (HE.out.below hb) (HKw.out.below hb) x2 x3 ?_
                rw [hcore]; exact pack_less hns hd
              have k4 : ∀ w', Calls Tryz.prog 27 #[.string (str core ++ ⟨#[46, 115, 112]⟩)] w' fun e w'' => ∃ v, e = .returned v ∧ Toks 40 w'' w'.heap.size v (mvTokens (core ++ 46 :: sSp)) ∧ Below w'.heap.size w' w'' := fun w' => by
                rw [e2]; exact sparse27 _ x2.len w'
              have k5 : ∀ w', Calls Tryz.prog 27 #[.string (str core)] w' fun e w'' => ∃ v, e = .returned v ∧ Toks 40 w'' w'.heap.size v (mvTokens core) ∧ Below w'.heap.size w' w'' := fun w' => sparse27 _ (by omega) w'
              have okA : ∀ t ∈ mvTokens core, pOk t.p ∧ t.v.length ≤ 1000000 := by rw [hcore]; exact mvnum_ok hns hn15
              have okB : ∀ t ∈ mvTokens (core ++ 46 :: sSp), pOk t.p ∧ t.v.length ≤ 1000000 := by rw [hcore]; exact mvpack_ok hns hn15 hd (by unfold pOk; simp)
              have lA : (mvTokens core).length ≤ 1000000 := by have := mv_len core; omega
              have lB : (mvTokens (core ++ 46 :: sSp)).length ≤ 1000000 := by have h := mv_len (core ++ 46 :: sSp); have h2 := x2.len; omega
              have hcmp : cmpS (mvTokens core) (mvTokens (core ++ 46 :: sSp)) = (c, true) := by rw [hcore]; exact g2
              have K1 := Lib.hid k1
              have K2 := Lib.hid k2
              have K3 := Lib.hid k3
              have K4 := Lib.hid k4
              have K5 := Lib.hid k5
              have OKA := Lib.hid okA
              have OKB := Lib.hid okB
              have LA := Lib.hid lA
              have LB := Lib.hid lB
              have HCM := Lib.hid hcmp
              have G4 := Lib.hid g4
              clear hV6 hV0 hV1 hns hcore hn15 hd g2 g3 g4 hnV hcl2 t1 t2 t3 hmz x1 x2 x3 e2 e3 k1 k2 k3 k4 k5 okA okB lA lB hcmp
              go_wp2_with fail
              (with_reducible refine (K5.out _).mono ?_)
              rintro e w1 ⟨v1, rfl, hT1, hB1⟩
              have HB1 := Lib.hid (HB0.out.trans (hB1.mono HB0.out.size))
              have HT1 := Lib.hid hT1
              clear hT1 hB1
              go_wp2_with fail
              (with_reducible refine (K4.out _).mono ?_)
              rintro e w2 ⟨v2, rfl, hT2, hB2⟩
              have HB2 := Lib.hid (HB1.out.trans (hB2.mono HB1.out.size))
              have h32 := compare32 v1 v2 _ _ _ _ w2 (HT1.out.below hB2) hT2 LA.out LB.out OKA.out OKB.out
              rw [HCM.out] at h32
              unfold res2 at h32
              have H32 := Lib.hid h32
              clear hT2 hB2 h32
              go_wp2_with fail
              (with_reducible refine (H32.out).mono ?_)
              rintro e w3 ⟨rfl, hB3⟩
              have HB3 := Lib.hid (HB2.out.trans (hB3.mono HB2.out.size))
              have H28 := Lib.hid (K1.out w3 HB3.out)
              clear hB3
              go_wp2_with fail
              (with_reducible refine (H28.out).mono ?_)
              rintro e w4 ⟨rfl, hB4⟩
              have HB4 := Lib.hid (HB3.out.trans (hB4.mono HB3.out.size))
              have H28 := Lib.hid (K2.out w4 HB4.out)
              clear hB4
              go_wp2_with fail
              (with_reducible refine (H28.out).mono ?_)
              rintro e w5 ⟨rfl, hB5⟩
              have HB5 := Lib.hid (HB4.out.trans (hB5.mono HB4.out.size))
              have H28 := Lib.hid (K3.out w5 HB5.out)
              clear hB5
              go_wp2_with fail
              (with_reducible refine (H28.out).mono ?_)
              rintro e w6 ⟨rfl, hB6⟩
              have HB6 := Lib.hid (HB5.out.trans (hB6.mono HB5.out.size))
              clear hB6
              go_wp2_with fail
              (with_reducible refine (turned33 c G4.out _).mono ?_)
              rintro e w7 ⟨rfl, rfl⟩
              go_wp2_with fail
              go_ret
              exact ⟨rfl, HB6.out⟩
              
    · have hs : shortB [core] = false := by simpa using hs
      go_wp2_with fail
      go_ret
      exact ⟨rfl, HB0.out⟩
  · have p3 : 2147483647 < core.length := by omega
    clear g1
    go_enter Tryz.func9, Tryz.ntmps9
    go_wp2_with fail
    go_ret
    exact ⟨rfl, Below.refl _ _⟩
end Go.Proofs.Tz
