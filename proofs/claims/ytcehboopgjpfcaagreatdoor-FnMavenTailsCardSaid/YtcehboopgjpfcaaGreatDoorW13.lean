/- The walk of FnMavenTails: for numbers of up to K words. -/
import Derived.Test.YtcehboopgjpfcaaGreatDoorW6
import Derived.Test.YtcehboopgjpfcaaGreatDoorF9
namespace Go.Proofs.Tz
open Go.RowKit Mv

theorem raw_nums {V : Nat} {l : Bs} (h : Nums V l) : ∀ t ∈ rawT l, allDig t.v = true → dval t.v < V := fun t ht hd => h t (by rw [tokR_tokL]; exact ht) hd

set_option maxHeartbeats 8000000 in
set_option maxRecDepth 100000 in
theorem tails_walk (K : Nat) (hK : 10 ^ 1200 ≤ WB ^ K) (HI : ItoaSaid K) (s : Bs) (a2 : Option Addr) (c2 : Nat) (L : List Nat) (w : World) (hE : EnvL w) (hKw : KwAt w) (h2 : RowN .u8 w a2 L) (hL : ∀ n ∈ L, n < 256)
    (hc : s.length ≤ 9223372036854775807) (hl : L.length ≤ 9223372036854775807) :
    Calls Tryz.prog 13 #[.string (str s), .slice a2 L.length c2] w fun e w' => e = .returned (.bool true) ∧ Below w.heap.size w w' := by
  have hss := str_size
  by_cases g1 : s.length ≤ 2147483647 ∧ L.length ≤ 2147483647
  · obtain ⟨g1, g3⟩ := g1
    have HE := Lib.hid hE
    have HKw := Lib.hid hKw
    have HHI := Lib.hid HI
    have HK := Lib.hid hK
    have H2 := Lib.hid h2
    have HL := Lib.hid hL
    clear hE hKw HI h2 hL hK
    obtain ⟨wa, hwa⟩ : ∃ x, w.alloc (Obj.cells #[Value.string (str s)] 9) = x := ⟨_, rfl⟩
    have hB0 : Below w.heap.size w wa := by rw [← hwa]; exact (Below.refl _ _).alloc (Nat.le_refl _) _
    have HB0 := Lib.hid hB0
    have hrs : RowS wa (some ⟨w.heap.size, 0, none⟩) [s] := by
      have hA : Arr wa w.heap.size 9 [.string (str s)] := by rw [← hwa]; exact Arr.new _ _ _
      intro i x hi
      match i with
      | 0 => injection hi with hi; subst hi; exact ⟨_, 0, rfl, hA.cell (j := 0) rfl⟩
      | i + 1 => simp at hi
    have hsh : Calls Tryz.prog 17 #[.slice (some ⟨w.heap.size, 0, none⟩) 1 1] wa fun e w' => e = .returned (.bool (shortB [s])) ∧ wa = w' :=
      short_any (some ⟨w.heap.size, 0, none⟩) 1 [s] (by simp) _ hrs
    have HSH := Lib.hid hsh
    clear hB0 hrs hsh
    go_enter Tryz.func13, Tryz.ntmps13
    go_wp2_with fail
    clear hwa
    (with_reducible refine (HSH.out).mono ?_)
    rintro e w1 ⟨rfl, rfl⟩
    by_cases hs : shortB [s] = true
    · have hs3 : s.length ≤ 1200 := by
        simp only [shortB, Bool.and_eq_true, List.all_eq_true, decide_eq_true_eq] at hs
        exact hs.1 s (by simp)
      go_wp2_with fail
      (with_reducible refine (textKnown26 s (by omega) _).mono ?_)
      rintro e ws ⟨rfl, hBs⟩
      have HBS := Lib.hid (HB0.out.trans (hBs.mono HB0.out.size))
      clear hBs
      cases hk : tkn s with
      | false =>
        go_wp2_with fail
        go_ret
        exact ⟨rfl, HBS.out⟩
      | true =>
        by_cases h60 : L.length ≤ 60
        · have hasc : Asc s := by
            unfold tkn at hk
            simp only [Bool.and_eq_true] at hk
            exact (isAsc_iff s).1 hk.1
          have HASC := Lib.hid hasc
          clear hasc
          go_wp2_with fail
          obtain ⟨wo, rfl⟩ : ∃ wo : World, wo = w := ⟨_, rfl⟩
          go_loopw [5, 7, 36] (fun t z x wr => ∃ (zv : Value) (k : Nat), zv = z ∧ x = .int .i64 (k : Int) ∧ k ≤ L.length ∧ t = .string (str (s ++ ((L.take k).map tl).flatten)) ∧ Hid (Below wo.heap.size wo wr)) (fun _ _ x _ => L.length - (intOf x).toNat)
          case atStart => exact ⟨_, 0, rfl, rfl, Nat.zero_le _, by simp, HBS⟩
          case round =>
            obtain ⟨zv, k, rfl, rfl, hk, rfl, J⟩ := hrel
            have htm : ∀ (l : List Nat), ∀ t ∈ l.map tl, t ∈ tailsL := by
              intro l t ht
              obtain ⟨x, _, rfl⟩ := List.mem_map.1 ht
              exact tl_mem x
            have htl := tails_len (htm (L.take k))
            rw [List.length_map, List.length_take] at htl
            have hapl : (s ++ ((L.take k).map tl).flatten).length ≤ 1200 + 60 * 8 := by rw [List.length_append]; omega
            have HTM := Lib.hid htm
            obtain ⟨tt, htt⟩ : ∃ tt, tt = s ++ ((L.take k).map tl).flatten := ⟨_, rfl⟩
            rw [← htt] at hapl ⊢
            have HTT := Lib.hid htt
            clear htm htl htt
            by_cases hkl : k < L.length
            · obtain ⟨n, hn⟩ : ∃ n, L[k]? = some n := ⟨_, List.getElem?_eq_getElem hkl⟩
              obtain ⟨b, o, hb, hcell⟩ := (H2.out.below J.out) k n hn
              subst hb
              have hn256 := HL.out n (List.mem_of_getElem? hn)
              have HN := Lib.hid hn
              clear hn
              go_wp2_with fail
              (with_reducible refine (tails_any _).mono ?_)
              rintro e w1 ⟨rfl, hA1, hB1⟩
              have HA1 := Lib.hid hA1
              have HB1 := Lib.hid hB1
              clear hA1 hB1
              go_wp2_with fail
              (with_reducible refine (tails_any _).mono ?_)
              rintro e w2 ⟨rfl, hA2, hB2⟩
              have hct : w2.cell? ⟨wr.heap.size, n % 9, none⟩ = some (.string (str (tl n))) := by
                refine (HA1.out.below hB2).cell ?_
                have h9 : n % 9 < tailsL.length := Nat.mod_lt _ (by decide)
                show (svs tailsL)[n % 9]? = some (sv (tl n))
                rw [svs, List.getElem?_map, List.getElem?_eq_getElem h9, tl, List.getD_eq_getElem?_getD, List.getElem?_eq_getElem h9]; rfl
              have hB12 : Below wo.heap.size wo w2 := J.out.trans ((HB1.out.trans (hB2.mono HB1.out.size)).mono J.out.size)
              have HB12 := Lib.hid hB12
              have htll : (tl n).length ≤ 8 := by
                have := tails_len (ts := [tl n]) (fun t ht => by simp at ht; subst ht; exact tl_mem n)
                simpa using this
              have hlen9 : tailsL.length = 9 := rfl
              have HL9 := Lib.hid hlen9
              clear hA2 hB2 hB12 hlen9
              go_wp2_with fail
              go_roundw
              case rel =>
                refine ⟨_, k + 1, rfl, by go_num, by omega, ?_, HB12⟩
                rw [str_append, take_snoc HN.out, List.map_append, List.flatten_append, ← List.append_assoc, ← HTT.out]; simp
              case measure => simp [intOf]; omega
            · have hke : L.take k = L := List.take_of_length_le (by omega)
              obtain ⟨ts, hts⟩ : ∃ ts, ts = L.map tl := ⟨_, rfl⟩
              have htm := HTM.out L
              have htt := HTT.out
              rw [← hts] at htm
              rw [hke, ← hts] at htt
              have hn1 : Nums (WB ^ K) s := short_nums HK.out hs3
              have hn2 : Nums (WB ^ K) tt := by rw [htt]; exact nums_raw (raw_tails_small (Nat.pow_pos WB_pos) (raw_nums hn1) htm)
              have hasc2 : Asc tt := by rw [htt]; exact asc_append HASC.out (asc_tails htm)
              have hlen1 : s.length ≤ 100000 := by omega
              have hlen2 : tt.length ≤ 100000 := by omega
              have hmi : mvTokens tt = mvTokens s := by rw [htt]; exact mv_tails s ts htm
              have hp1 := mparse_any K HHI.out s hlen1 HASC.out hn1 wr (HE.out.below J.out)
              have hp2 := fun w' (hb : Below wo.heap.size wo w') => mparse_any K HHI.out tt hlen2 hasc2 hn2 w' (HE.out.below hb)
              have hct := fun w' (hb : Below wo.heap.size wo w') => mctext28 K HHI.out s tt 0 w' (HE.out.below hb) (HKw.out.below hb) ⟨hlen1, HASC.out, hn1⟩ ⟨hlen2, hasc2, hn2⟩ (by rw [hmi]; exact vcmp_self _)
              rw [hmi] at hp2
              obtain ⟨M, hM⟩ : ∃ M, M = mvTokens s := ⟨_, rfl⟩
              have hMl : M.length ≤ 1000000 := by rw [hM]; have := mv_len s; omega
              have hM0 : 0 < M.length := by rw [hM]; exact List.length_pos_iff.2 (mv_ne _)
              rw [← hM] at hp1 hp2
              have HP1 := Lib.hid hp1
              have HP2 := Lib.hid hp2
              have HCT := Lib.hid hct
              clear hn1 hn2 hasc2 hlen1 hlen2 hp1 hp2 hct hM htm hts HTM htt hke hmi
              go_wp2_with fail
              (with_reducible refine (HP1.out).mono ?_)
              rintro e w1 ⟨v, rfl, hT, hB⟩
              obtain ⟨av, cv, hv⟩ := toks_form hT
              subst hv
              have HT := Lib.hid hT
              have HB := Lib.hid (J.out.trans (hB.mono J.out.size))
              clear hT hB
              go_wp2_with fail
              (with_reducible refine (HCT.out _ HB.out).mono ?_)
              rintro e w2 ⟨rfl, hB2⟩
              have HT2 := Lib.hid (HT.out.below hB2)
              have HB2 := Lib.hid (HB.out.trans (hB2.mono HB.out.size))
              clear hB2
              go_wp2_with fail
              (with_reducible refine (HP2.out _ HB2.out).mono ?_)
              rintro e w3 ⟨v3, rfl, hT3, hB3⟩
              have htok := tokens_any _ _ _ _ _ _ w3 hT3 (HT2.out.below hB3) hMl hMl
              have HTO := Lib.hid htok
              have HB3 := Lib.hid (HB2.out.trans (hB3.mono HB2.out.size))
              clear hT3 hB3 htok
              go_wp2_with fail
              (with_reducible refine (HTO.out).mono ?_)
              rintro e w4 ⟨rfl, hB4⟩
              have HB4 := Lib.hid (HB3.out.trans (hB4.mono HB3.out.size))
              clear hB4
              go_wp2_with fail
              go_ret
              exact ⟨by simp, HB4.out⟩
        · have h61 : 60 < L.length := by omega
          clear h60
          go_wp2_with fail
          go_ret
          exact ⟨rfl, HBS.out⟩
    · have hs : shortB [s] = false := by simpa using hs
      go_wp2_with fail
      go_ret
      exact ⟨rfl, HB0.out⟩
  · by_cases p1 : s.length ≤ 2147483647
    · have p3 : 2147483647 < L.length := by omega
      clear g1
      go_enter Tryz.func13, Tryz.ntmps13
      go_wp2_with fail
      go_ret
      exact ⟨rfl, Below.refl _ _⟩
    · have p3 : 2147483647 < s.length := by omega
      clear g1 p1
      go_enter Tryz.func13, Tryz.ntmps13
      go_wp2_with fail
      go_ret
      exact ⟨rfl, Below.refl _ _⟩
end Go.Proofs.Tz
