/- The walk of FnMavenInner. -/
import Derived.Test.YtcehboopgjpfcaaGreatDoorL8
namespace Go.Proofs.Tz
open Go.RowKit Mv

theorem big15 {K : Nat} (hK : 1 ≤ K) {n : Nat} (h : n < 10 ^ 15) : n < WB ^ K :=
  Nat.lt_of_lt_of_le h (Nat.le_trans (by decide : 10 ^ 15 ≤ WB) (by
    calc WB = WB ^ 1 := (Nat.pow_one _).symm
      _ ≤ WB ^ K := Nat.pow_le_pow_right WB_pos hK))

set_option maxHeartbeats 8000000 in
set_option maxRecDepth 100000 in
theorem inner_walk (K : Nat) (hK : 1 ≤ K) (HI : ItoaSaid K) (core word : Bs) (a2 : Option Addr) (c2 : Nat) (L : List Nat) (w : World) (hE : EnvL w) (h2 : RowN .u8 w a2 L) (hL : ∀ n ∈ L, n < 256)
    (hc : core.length ≤ 9223372036854775807) (hw : word.length ≤ 9223372036854775807) (hl : L.length ≤ 9223372036854775807) :
    Calls Tryz.prog 4 #[.string (str core), .string (str word), .slice a2 L.length c2] w fun e w' => e = .returned (.bool true) ∧ Below w.heap.size w w' := by
  have hss := str_size
  by_cases g1 : core.length ≤ 2147483647 ∧ word.length ≤ 2147483647 ∧ L.length ≤ 2147483647
  · obtain ⟨g1, g2, g3⟩ := g1
    have HE := Lib.hid hE
    have HHI := Lib.hid HI
    have H2 := Lib.hid h2
    have HL := Lib.hid hL
    clear hE HI h2 hL
    have hB0 : Below w.heap.size w (w.alloc (Obj.cells #[Value.string (str core), Value.string (str word)] 9)) := (Below.refl _ _).alloc (Nat.le_refl _) _
    have HB0 := Lib.hid hB0
    have hrs : RowS (w.alloc (Obj.cells #[Value.string (str core), Value.string (str word)] 9)) (some ⟨w.heap.size, 0, none⟩) [core, word] := by
      have hA : Arr (w.alloc (Obj.cells #[Value.string (str core), Value.string (str word)] 9)) w.heap.size 9 [.string (str core), .string (str word)] := Arr.new _ _ _
      intro i s hi
      match i with
      | 0 => injection hi with hi; subst hi; exact ⟨_, 0, rfl, hA.cell (j := 0) rfl⟩
      | 1 => injection hi with hi; subst hi; exact ⟨_, 0, rfl, hA.cell (j := 1) rfl⟩
      | i + 2 => simp at hi
    have HRS := Lib.hid hrs
    have hsh : Calls Tryz.prog 17 #[.slice (some ⟨w.heap.size, 0, none⟩) 2 2] (w.alloc (Obj.cells #[Value.string (str core), Value.string (str word)] 9)) fun e w' => e = .returned (.bool (shortB [core, word])) ∧ w.alloc (Obj.cells #[Value.string (str core), Value.string (str word)] 9) = w' :=
      short_any (some ⟨w.heap.size, 0, none⟩) 2 [core, word] (by simp) _ hrs
    have HSH := Lib.hid hsh
    clear hB0 hrs hsh
    go_enter Tryz.func4, Tryz.ntmps4
    go_wp2_with fail
    (with_reducible refine (HSH.out).mono ?_)
    rintro e w1 ⟨rfl, rfl⟩
    by_cases hs : shortB [core, word] = true
    · have hs2 : core.length ≤ 1200 ∧ word.length ≤ 1200 := by
        simp only [shortB, Bool.and_eq_true, List.all_eq_true, decide_eq_true_eq] at hs
        exact ⟨hs.1 core (by simp), hs.1 word (by simp)⟩
      obtain ⟨hs3, hs4⟩ := hs2
      go_wp2_with fail
      have hnb : Calls Tryz.prog 23 #[.string (str core), .int .i64 8] (w.alloc (Obj.cells #[Value.string (str core), Value.string (str word)] 9)) (NumbPost core 8 (w.alloc (Obj.cells #[Value.string (str core), Value.string (str word)] 9))) := numbered_any core (by omega) 8 (by decide) _
      (with_reducible refine hnb.mono ?_)
      rintro e w1 ⟨b, rfl, hb, rfl⟩
      clear hnb
      cases b
      · clear hb
        go_wp2_with fail
        go_ret
        exact ⟨rfl, HB0.out⟩
      · have HNB := Lib.hid (hb rfl)
        clear hb
        go_wp2_with fail
        (with_reducible refine (words_any word (by omega) _).mono ?_)
        rintro e w1 ⟨rfl, rfl⟩
        by_cases hwd : isWord word = true
        · by_cases h60 : L.length ≤ 60
          · obtain ⟨ns, hns, hcore, _, hn15⟩ := HNB.out
            have HNS := Lib.hid hns
            have HCO := Lib.hid hcore
            have HN15 := Lib.hid hn15
            have HWD := Lib.hid hwd
            clear hns hcore hn15 HNB
            go_wp2_with fail
            obtain ⟨wo, rfl⟩ : ∃ wo : World, wo = w := ⟨_, rfl⟩
            go_loopw [7, 9, 47] (fun t z x wr => ∃ (zv : Value) (k : Nat), zv = z ∧ x = .int .i64 (k : Int) ∧ k ≤ L.length ∧ t = .string (str (core ++ ((L.take k).map tl).flatten)) ∧ Hid (Below wo.heap.size wo wr)) (fun _ _ x _ => L.length - (intOf x).toNat)
            case atStart => exact ⟨_, 0, rfl, rfl, Nat.zero_le _, by simp, HB0⟩
            case round =>
              obtain ⟨zv, k, rfl, rfl, hk, rfl, J⟩ := hrel
              have htm : ∀ (l : List Nat), ∀ t ∈ l.map tl, t ∈ tailsL := by
                intro l t ht
                obtain ⟨x, _, rfl⟩ := List.mem_map.1 ht
                exact tl_mem x
              have htl := tails_len (htm (L.take k))
              rw [List.length_map, List.length_take] at htl
              have hapl : (core ++ ((L.take k).map tl).flatten).length ≤ 1200 + 60 * 8 := by rw [List.length_append]; omega
              have HTM := Lib.hid htm
              obtain ⟨tt, htt⟩ : ∃ tt, tt = core ++ ((L.take k).map tl).flatten := ⟨_, rfl⟩
              rw [← htt] at hapl ⊢
              have HTT := Lib.hid htt
              clear htm htl htt
              by_cases hkl : k < L.length
              · obtain ⟨n, hn⟩ : ∃ n, L[k]? = some n := ⟨_, List.getElem?_eq_getElem hkl⟩
                obtain ⟨b, o, hb, hcell⟩ := (H2.out.below J.out) k n hn
                subst hb
                have hn256 := HL.out n (List.mem_of_getElem? hn)
                have HN := Lib.hid hn
                clear hn
                go_wp2_with fail
                (with_reducible refine (tails_any _).mono ?_)
                rintro e w1 ⟨rfl, hA1, hB1⟩
                have HA1 := Lib.hid hA1
                have HB1 := Lib.hid hB1
                clear hA1 hB1
                go_wp2_with fail
                (with_reducible refine (tails_any _).mono ?_)
                rintro e w2 ⟨rfl, hA2, hB2⟩
                have hct : w2.cell? ⟨wr.heap.size, n % 9, none⟩ = some (.string (str (tl n))) := by
                  refine (HA1.out.below hB2).cell ?_
                  have h9 : n % 9 < tailsL.length := Nat.mod_lt _ (by decide)
                  show (svs tailsL)[n % 9]? = some (sv (tl n))
                  rw [svs, List.getElem?_map, List.getElem?_eq_getElem h9, tl, List.getD_eq_getElem?_getD, List.getElem?_eq_getElem h9]; rfl
                have hB12 : Below wo.heap.size wo w2 := J.out.trans ((HB1.out.trans (hB2.mono HB1.out.size)).mono J.out.size)
                have HB12 := Lib.hid hB12
                have htll : (tl n).length ≤ 8 := by
                  have := tails_len (ts := [tl n]) (fun t ht => by simp at ht; subst ht; exact tl_mem n)
                  simpa using this
                have hlen9 : tailsL.length = 9 := rfl
                have HL9 := Lib.hid hlen9
                clear hA2 hB2 hB12 hlen9
                go_wp2_with fail
                go_roundw
                case rel =>
                  refine ⟨_, k + 1, rfl, by go_num, by omega, ?_, HB12⟩
                  rw [str_append, take_snoc HN.out, List.map_append, List.flatten_append, ← List.append_assoc, ← HTT.out]; simp
                case measure => simp [intOf]; omega
              · have hke : L.take k = L := List.take_of_length_le (by omega)
                obtain ⟨ts, hts⟩ : ∃ ts, ts = L.map tl := ⟨_, rfl⟩
                have htm := HTM.out L
                have htt := HTT.out
                rw [← hts] at htm
                rw [hke, ← hts] at htt
                have HTS := Lib.hid htm
                have he1 : str core ++ ({ data := #[45] } : ByteArray) ++ str word = str (core ++ 45 :: word) := by
                  rw [show ({ data := #[45] } : ByteArray) = str [45] from rfl, str_append, str_append]; simp
                have he2 : str tt ++ ({ data := #[45] } : ByteArray) ++ str word = str (tt ++ 45 :: word) := by
                  rw [show ({ data := #[45] } : ByteArray) = str [45] from rfl, str_append, str_append]; simp
                have hhw := hom_word HWD.out
                have hasc : Asc (core ++ 45 :: word) := by
                  rw [HCO.out]
                  exact asc_append (asc_num ns) fun c hc => by
                    rcases List.mem_cons.1 hc with rfl | hc
                    · decide
                    · exact asc_word HWD.out c hc
                have hasc2 : Asc (tt ++ 45 :: word) := by
                  rw [htt, HCO.out]
                  exact asc_append (asc_append (asc_num ns) (asc_tails htm)) fun c hc => by
                    rcases List.mem_cons.1 hc with rfl | hc
                    · decide
                    · exact asc_word HWD.out c hc
                have hsm := raw_num_small (V := WB ^ K) HNS.out (fun n hn => big15 hK (HN15.out n hn))
                have hn1 : Nums (WB ^ K) (core ++ 45 :: word) := by
                  rw [HCO.out]
                  exact nums_raw (raw_word_small rfl hsm hhw)
                have hn2 : Nums (WB ^ K) (tt ++ 45 :: word) := by
                  rw [htt, HCO.out]
                  exact nums_raw (raw_word_small rfl (raw_tails_small (Nat.pow_pos WB_pos) hsm htm) hhw)
                have hlen1 : (core ++ 45 :: word).length ≤ 100000 := by rw [List.length_append, List.length_cons]; omega
                have hlen2 : (tt ++ 45 :: word).length ≤ 100000 := by rw [List.length_append, List.length_cons]; omega
                have hp1 := mparse_any K HHI.out (core ++ 45 :: word) hlen1 hasc hn1 wr (HE.out.below J.out)
                have hp2 := fun w' (hb : Below wr.heap.size wr w') => mparse_any K HHI.out (tt ++ 45 :: word) hlen2 hasc2 hn2 w' ((HE.out.below J.out).below hb)
                have hmi : mvTokens (tt ++ 45 :: word) = mvTokens (core ++ 45 :: word) := by rw [htt]; exact mv_inner core ts htm hhw
                rw [hmi] at hp2
                obtain ⟨M, hM⟩ : ∃ M, M = mvTokens (core ++ 45 :: word) := ⟨_, rfl⟩
                have hMl : M.length ≤ 1000000 := by rw [hM]; have := mv_len (core ++ 45 :: word); omega
                have hM0 : 0 < M.length := by rw [hM]; exact List.length_pos_iff.2 (mv_ne _)
                rw [← hM] at hp1 hp2
                have HP1 := Lib.hid hp1
                have HP2 := Lib.hid hp2
                clear hhw hasc hasc2 hsm hn1 hn2 hlen1 hlen2 hp1 hp2 hM htm hts HTM htt hke hmi
                go_wp2_with fail
                (with_reducible refine (HP1.out).mono ?_)
                rintro e w1 ⟨v, rfl, hT, hB⟩
                obtain ⟨av, cv, hv⟩ := toks_form hT
                subst hv
                have HT := Lib.hid hT
                have HB := Lib.hid hB
                clear hT hB
                go_wp2_with fail
                (with_reducible refine (HP2.out _ HB.out).mono ?_)
                rintro e w2 ⟨v2, rfl, hT2, hB2⟩
                have htok := tokens_any _ _ _ _ _ _ w2 hT2 (HT.out.below hB2) hMl hMl
                have HTO := Lib.hid htok
                have HB2 := Lib.hid (J.out.trans ((HB.out.trans (hB2.mono HB.out.size)).mono J.out.size))
                clear hT2 hB2 htok
                go_wp2_with fail
                (with_reducible refine (HTO.out).mono ?_)
                rintro e w3 ⟨rfl, hB3⟩
                have HB3 := Lib.hid (HB2.out.trans (hB3.mono HB2.out.size))
                clear hB3
                go_wp2_with fail
                go_ret
                exact ⟨by simp, HB3.out⟩
          · have h61 : 60 < L.length := by omega
            clear h60
            go_wp2_with fail
            go_ret
            exact ⟨rfl, HB0.out⟩
        · have hwd : isWord word = false := by simpa using hwd
          go_wp2_with fail
          go_ret
          exact ⟨rfl, HB0.out⟩
    · have hs : shortB [core, word] = false := by simpa using hs
      go_wp2_with fail
      go_ret
      exact ⟨rfl, HB0.out⟩
  · by_cases p1 : core.length ≤ 2147483647
    · by_cases p2 : word.length ≤ 2147483647
      · have p3 : 2147483647 < L.length := by omega
        clear g1
        go_enter Tryz.func4, Tryz.ntmps4
        go_wp2_with fail
        go_ret
        exact ⟨rfl, Below.refl _ _⟩
      · have p3 : 2147483647 < word.length := by omega
        clear g1 p2
        go_enter Tryz.func4, Tryz.ntmps4
        go_wp2_with fail
        go_ret
        exact ⟨rfl, Below.refl _ _⟩
    · have p3 : 2147483647 < core.length := by omega
      clear g1 p1
      go_enter Tryz.func4, Tryz.ntmps4
      go_wp2_with fail
      go_ret
      exact ⟨rfl, Below.refl _ _⟩
end Go.Proofs.Tz
