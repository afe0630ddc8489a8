/- The walk of FnMavenStages. -/
import Derived.Test.YtcehboopgjpfcaaGreatDoorF9
import Derived.Test.YtcehboopgjpfcaaGreatDoorV3
import Derived.Test.YtcehboopgjpfcaaGreatDoorL9
import Derived.Test.YtcehboopgjpfcaaGreatDoorS3
import Derived.Test.YtcehboopgjpfcaaGreatDoorS4
namespace Go.Proofs.Tz
open Go.RowKit Mv

theorem kept2 {wz w' w1 : World} {g1 o1 g2 o2 : Nat} {v1 v2 : Value} (h : w'.cell? ⟨g1, o1, none⟩ = some v1 ∧ w'.cell? ⟨g2, o2, none⟩ = some v2 ∧ Below wz.heap.size wz w') (hB : Below w'.heap.size w' w1) :
    w1.cell? ⟨g1, o1, none⟩ = some v1 ∧ w1.cell? ⟨g2, o2, none⟩ = some v2 ∧ Below wz.heap.size wz w1 :=
  ⟨cell_keep hB h.1, cell_keep hB h.2.1, h.2.2.trans (hB.mono h.2.2.size)⟩
theorem heldB2 {p q : Prop} {B : Nat} {w w' : World} (h : p ∧ q ∧ Below B w w') : Below B w w' := h.2.2

/-- The ten texts. -/
def stx (core q : Bs) : List Bs := (ends q).map (core ++ ·)
theorem stx_cells (core q : Bs) : (#[Value.string (str core ++ ⟨#[45, 97, 108, 112, 104, 97]⟩), Value.string (str core ++ ⟨#[45, 98, 101, 116, 97]⟩), Value.string (str core ++ ⟨#[45, 109, 105, 108, 101, 115, 116, 111, 110, 101]⟩),
    Value.string (str core ++ ⟨#[45, 114, 99]⟩), Value.string (str core ++ ⟨#[45, 115, 110, 97, 112, 115, 104, 111, 116]⟩), Value.string (str core), Value.string (str core ++ ⟨#[45, 115, 112]⟩),
    Value.string (str core ++ ⟨#[45]⟩ ++ str q), Value.string (str core ++ ⟨#[45, 49]⟩), Value.string (str core ++ ⟨#[46, 49]⟩)] : Array Value) = (svs (stx core q)).toArray := by
  simp only [stx, ends, svs, sv, List.map_cons, List.map_nil, sAlpha, sBeta, sMile, sRc, sSnap, sSp]
  simp [str, ByteArray.ext_iff]
theorem stage_cells : (#[Value.string ⟨#[65]⟩, Value.string ⟨#[66]⟩, Value.string ⟨#[77]⟩, Value.string ⟨#[65, 76, 80, 72, 65]⟩, Value.string ⟨#[66, 69, 84, 65]⟩, Value.string ⟨#[77, 73, 76, 69, 83, 84, 79, 78, 69]⟩, Value.string ⟨#[82, 67]⟩, Value.string ⟨#[67, 82]⟩,
    Value.string ⟨#[83, 78, 65, 80, 83, 72, 79, 84]⟩, Value.string ⟨#[83, 80]⟩, Value.string ⟨#[71, 65]⟩, Value.string ⟨#[70, 73, 78, 65, 76]⟩, Value.string ⟨#[82, 69, 76, 69, 65, 83, 69]⟩] : Array Value) = (svs stageW).toArray := by kernel_rfl
theorem stageW_len : stageW.length = 13 := rfl
/-- The place that the statement reckons. -/
theorem sgn_minmax {i k : Nat} (_ : i < 10) (_ : k < 10) : max (-1) (min 1 ((i : Int) - (k : Int))) = sgn i k := by
  unfold sgn
  by_cases h1 : i < k
  · rw [if_pos h1]; omega
  · rw [if_neg h1]
    by_cases h2 : k < i
    · rw [if_pos h2]; omega
    · rw [if_neg h2]; omega
theorem stx_at (core q : Bs) {i : Nat} (hi : i < 10) : (svs (stx core q))[i]? = some (.string (str (core ++ (ends q).getD i []))) := by
  have hl : (ends q).length = 10 := rfl
  rw [svs, List.getElem?_map, stx, List.getElem?_map, List.getD_eq_getElem?_getD, List.getElem?_eq_getElem (by omega)]; rfl

set_option maxHeartbeats 16000000 in
set_option maxRecDepth 100000 in
theorem stages_walk (K : Nat) (hK : 1 ≤ K) (HI : ItoaSaid K) (core word : Bs) (w : World) (hE : EnvL w) (hKw : KwAt w) (hc : core.length ≤ 9223372036854775807) (hw : word.length ≤ 9223372036854775807) :
    Calls Tryz.prog 10 #[.string (str core), .string (str word)] w fun e w' => e = .returned (.bool true) ∧ Below w.heap.size w w' := by
  have hss := str_size
  by_cases g1 : core.length ≤ 2147483647
  · by_cases g2 : word.length ≤ 2147483647
    · have HE := Lib.hid hE
      have HKw := Lib.hid hKw
      have HHI := Lib.hid HI
      clear hE hKw HI
      obtain ⟨wa, hwa⟩ : ∃ x, x = w.alloc (Obj.cells #[Value.string (str core), Value.string (str word)] 9) := ⟨_, rfl⟩
      have hB0 : Below w.heap.size w wa := by rw [hwa]; exact (Below.refl _ _).alloc (Nat.le_refl _) _
      have hsa : wa.heap.size = w.heap.size + 1 := by rw [hwa, size_alloc]
      have HB0 := Lib.hid hB0
      have hrs : RowS wa (some ⟨w.heap.size, 0, none⟩) [core, word] := by
        have hA : Arr wa w.heap.size 9 [.string (str core), .string (str word)] := by rw [hwa]; exact Arr.new _ _ _
        intro i s hi
        match i with
        | 0 => injection hi with hi; subst hi; exact ⟨_, 0, rfl, hA.cell (j := 0) rfl⟩
        | 1 => injection hi with hi; subst hi; exact ⟨_, 0, rfl, hA.cell (j := 1) rfl⟩
        | i + 2 => simp at hi
      have hsh : Calls Tryz.prog 17 #[.slice (some ⟨w.heap.size, 0, none⟩) 2 2] wa fun e w' => e = .returned (.bool (shortB [core, word])) ∧ wa = w' :=
        short_any (some ⟨w.heap.size, 0, none⟩) 2 [core, word] (by simp) _ hrs
      have HSH := Lib.hid hsh
      clear hB0 hrs hsh
      go_enter Tryz.func10, Tryz.ntmps10
      go_wp2_with fail
      rw [← hwa]
      clear hwa
      (with_reducible refine (HSH.out).mono ?_)
      rintro e w1 ⟨rfl, rfl⟩
      by_cases hs : shortB [core, word] = true
      · have hs2 : core.length ≤ 1200 ∧ word.length ≤ 1200 := by
          simp only [shortB, Bool.and_eq_true, List.all_eq_true, decide_eq_true_eq] at hs
          exact ⟨hs.1 core (by simp), hs.1 word (by simp)⟩
        obtain ⟨hs3, hs4⟩ := hs2
        go_wp2_with fail
        have hnb : Calls Tryz.prog 23 #[.string (str core), .int .i64 8] wa (NumbPost core 8 wa) := numbered_any core (by omega) 8 (by decide) _
        (with_reducible refine hnb.mono ?_)
        rintro e w1 ⟨b, rfl, hb, rfl⟩
        clear hnb
        cases b
        · clear hb
          go_wp2_with fail
          go_ret
          exact ⟨rfl, HB0.out⟩
        · have HNB := Lib.hid (hb rfl)
          clear hb
          go_wp2_with fail
          (with_reducible refine (words_any word (by omega) _).mono ?_)
          rintro e w1 ⟨rfl, rfl⟩
          by_cases hwd : isWord word = true
          · have HWD := Lib.hid hwd
            obtain ⟨wb, hwb⟩ : ∃ x, x = wa.alloc (Obj.cells (tcs [⟨[], [49], false⟩, ⟨[45], word, false⟩]).toArray 40) := ⟨_, rfl⟩
            have hT : Toks 40 wb wa.heap.size (.slice (some ⟨wa.heap.size, 0, none⟩) 2 2) [⟨[], [49], false⟩, ⟨[45], word, false⟩] := by
              rw [hwb]
              exact World.ownsRow_lit wa (tcs [⟨[], [49], false⟩, ⟨[45], word, false⟩]).toArray 2 (Nat.le_refl _) (by decide) rfl
            have hBb : Below w.heap.size w wb := by rw [hwb]; exact HB0.out.alloc (by omega) _
            have hwb2 : wa.alloc (Obj.cells #[Value.string ⟨#[]⟩, Value.string ⟨#[49]⟩, Value.bool false, Value.string ⟨#[45]⟩, Value.string (str word), Value.bool false] 40) = wb := by rw [hwb]; rfl
            have hkn := known34 _ [⟨[], [49], false⟩, ⟨[45], word, false⟩] wa.heap.size wb hT (by simp) (fun t ht => by
              simp only [List.mem_cons, List.not_mem_nil, or_false] at ht
              rcases ht with rfl | rfl
              · exact ⟨rfl, .inl rfl, by decide⟩
              · exact ⟨rfl, .inr (.inr rfl), by show word.length ≤ 1000000; omega⟩)
            rw [hsa] at hkn
            have HKN := Lib.hid hkn
            have HBB := Lib.hid hBb
            clear hwd hwb hT hBb hkn
            go_wp2_with fail
            clear hwb2
            (with_reducible refine (HKN.out).mono ?_)
            rintro e w4 ⟨rfl, hB4⟩
            have HB4 := Lib.hid (HBB.out.trans (hB4.mono HBB.out.size))
            clear hB4
            cases hk : known [⟨[], [49], false⟩, ⟨[45], word, false⟩] with
            | false =>
              go_wp2_with fail
              go_ret
              exact ⟨rfl, HB4.out⟩
            | true =>
              obtain ⟨wz, hwz⟩ : ∃ x, x = w4.alloc (Obj.cells (svs stageW).toArray 9) := ⟨_, rfl⟩
              have hA : Arr wz w4.heap.size 9 (svs stageW) := by rw [hwz]; exact Arr.new _ _ _
              have HBZ := Lib.hid (show Below w.heap.size w wz by rw [hwz]; exact HB4.out.alloc HB4.out.size _)
              have hwz2 := hwz.symm
              rw [← stage_cells] at hwz2
              have HA := Lib.hid hA
              clear hk hA hwz
              go_wp2_with fail
              clear hwz2
              go_loop [6, 45] (fun z x => ∃ (zv : Value) (i : Nat), zv = z ∧ x = .int .i64 (i : Int) ∧ i ≤ 13 ∧ Hid (∀ s ∈ stageW.take i, s ≠ upper word)) (fun _ x => 13 - (intOf x).toNat)
              case atStart => exact ⟨_, 0, rfl, rfl, by decide, Lib.hid (by simp)⟩
              case round =>
                obtain ⟨zv, i, rfl, rfl, hi, J⟩ := hrel
                by_cases hil : i < 13
                · obtain ⟨s, hsw⟩ : ∃ s, stageW[i]? = some s := ⟨_, List.getElem?_eq_getElem (by rw [stageW_len]; exact hil)⟩
                  have hcz : wz.cell? ⟨w4.heap.size, i, none⟩ = some (.string (str s)) := HA.out.cell (by rw [svs, List.getElem?_map, hsw]; rfl)
                  have HS := Lib.hid hsw
                  have htl := str_toList
                  clear hsw
                  go_wp2_with fail
                  (with_reducible refine (great_any word (by omega) (asc_word HWD.out) wz).mono ?_)
                  rintro e w5 ⟨rfl, rfl⟩
                  by_cases he : s = upper word
                  · have m1 : (upper word == s) = true := by simp [he]
                    clear he
                    go_wp2_with fail
                    go_ret
                    exact ⟨rfl, HBZ.out⟩
                  · have m1 : (upper word == s) = false := by
                      simp only [beq_eq_false_iff_ne, ne_eq]
                      exact fun e => he e.symm
                    have HN := Lib.hid (take_ne J.out HS.out he)
                    clear he
                    go_wp2_with fail
                    go_round
                    case rel => exact ⟨_, i + 1, rfl, by go_num, by omega, HN⟩
                    case measure => simp [intOf]; omega
                · have hie : i = 13 := by omega
                  subst hie
                  have hnot : upper word ∉ stageW := fun hm => J.out _ (by rw [List.take_of_length_le (Nat.le_of_eq stageW_len)]; exact hm) rfl
                  have hpl := plainw_of HWD.out hnot
                  obtain ⟨ns, hns, hcore, _, hn15⟩ := HNB.out
                  have hV : 1 < WB ^ K := Nat.lt_of_lt_of_le (by decide : 1 < WB) (by
                    calc WB = WB ^ 1 := (Nat.pow_one _).symm
                      _ ≤ WB ^ K := Nat.pow_le_pow_right WB_pos hK)
                  obtain ⟨wy, hwy⟩ : ∃ x, x = wz.alloc (Obj.cells (svs (stx core word)).toArray 9) := ⟨_, rfl⟩
                  have hAy : Arr wy wz.heap.size 9 (svs (stx core word)) := by rw [hwy]; exact Arr.new _ _ _
                  have hBy : Below w.heap.size w wy := by rw [hwy]; exact HBZ.out.alloc HBZ.out.size _
                  have hct : ∀ i k : Nat, i < 10 → k < 10 → ∀ w' : World, Below wy.heap.size wy w' → Calls Tryz.prog 28 #[.string (str (core ++ (ends word).getD i [])), .string (str (core ++ (ends word).getD k []))] w' fun e w'' => e = .returned (.tuple #[.int .i64 (sgn i k), .bool true]) ∧ Below w'.heap.size w' w'' := by
                    intro i k hi hk w' hB
                    have hmem : ∀ j, j < 10 → (ends word).getD j [] ∈ ends word := fun j hj => by
                      have hl : (ends word).length = 10 := rfl
                      rw [List.getD_eq_getElem?_getD, List.getElem?_eq_getElem (by omega)]
                      exact List.getElem_mem _
                    have t1 := tail_ends hV HWD.out hs4 _ (hmem i hi)
                    have t2 := tail_ends hV HWD.out hs4 _ (hmem k hk)
                    have c1 := t1.core hns (fun m hm => big15 hK (hn15 m hm)) (by rw [← hcore]; exact hs3)
                    have c2 := t2.core hns (fun m hm => big15 hK (hn15 m hm)) (by rw [← hcore]; exact hs3)
                    rw [← hcore] at c1 c2
                    have hbw := hBy.trans (hB.mono hBy.size)
                    refine mctext28 K HHI.out _ _ (sgn i k) w' (HE.out.below hbw) (HKw.out.below hbw) ⟨c1.2.2, c1.2.1, nums_runs (Nat.pow_pos WB_pos) c1.1⟩ ⟨c2.2.2, c2.2.1, nums_runs (Nat.pow_pos WB_pos) c2.1⟩ ?_
                    rw [hcore]
                    exact stage_cmp hns hpl i k hi hk
                  have HCT := Lib.hid hct
                  have HAY := Lib.hid hAy
                  have HBY := Lib.hid hBy
                  have hwy2 := hwy.symm
                  rw [← stx_cells] at hwy2
                  clear hct hAy hBy hwy hpl hnot hcore hn15 hns hV J HA HNB HWD HKN HBB HBZ HB4
                  go_wp2_with fail
                  clear hwy2
                  obtain ⟨wo, rfl⟩ : ∃ wo : World, wo = wy := ⟨_, rfl⟩
                  go_loopw [8, 9, 10, 11, 78] (fun a b c d x wr => ∃ (av bv cv dv : Value) (i : Nat), av = a ∧ bv = b ∧ cv = c ∧ dv = d ∧ x = .int .i64 (i : Int) ∧ i ≤ 10 ∧ Hid (Below wo.heap.size wo wr)) (fun _ _ _ _ x _ => 10 - (intOf x).toNat)
                  case atStart => exact ⟨_, _, _, _, 0, rfl, rfl, rfl, rfl, rfl, by decide, Lib.hid (Below.refl _ _)⟩
                  case round =>
                    obtain ⟨av, bv, cv, dv, i, rfl, rfl, rfl, rfl, rfl, hi, J⟩ := hrel
                    by_cases hil : i < 10
                    · have i0 : (0 : Int) ≤ (i : Int) := by omega
                      have i1 : (i : Int) < 10 := by omega
                      go_wp2_with fail
                      obtain ⟨wq, rfl⟩ : ∃ wq : World, wq = wr := ⟨_, rfl⟩
                      go_loopw [9, 10, 11, 83] (fun b c d x wr => ∃ (bv cv dv : Value) (k : Nat), bv = b ∧ cv = c ∧ dv = d ∧ x = .int .i64 (k : Int) ∧ k ≤ 10 ∧ Hid (Below wo.heap.size wo wr)) (fun _ _ _ x _ => 10 - (intOf x).toNat)
                      case atStart => exact ⟨_, _, _, 0, rfl, rfl, rfl, rfl, by decide, J⟩
                      case round =>
                        obtain ⟨bv, cv, dv, k, rfl, rfl, rfl, rfl, hk, JJ⟩ := hrel
                        by_cases hkl : k < 10
                        · have HC := Lib.hid (HCT.out i k hil hkl)
                          have ci : wr.cell? ⟨wz.heap.size, i, none⟩ = some (.string (str (core ++ (ends word).getD i []))) := (HAY.out.below JJ.out).cell (stx_at core word hil)
                          have ck : wr.cell? ⟨wz.heap.size, k, none⟩ = some (.string (str (core ++ (ends word).getD k []))) := (HAY.out.below JJ.out).cell (stx_at core word hkl)
                          go_wp2_with fail
                          have hS0 : wr.cell? ⟨wz.heap.size, i, none⟩ = some (.string (str (core ++ (ends word).getD i []))) ∧ wr.cell? ⟨wz.heap.size, k, none⟩ = some (.string (str (core ++ (ends word).getD k []))) ∧ Below wo.heap.size wo wr := ⟨ci, ck, JJ.out⟩
                          have k0 : (0 : Int) ≤ (k : Int) := by omega
                          have k1 : (k : Int) < 10 := by omega
                          go_region_held3 (fun w' => w'.cell? ⟨wz.heap.size, i, none⟩ = some (.string (str (core ++ (ends word).getD i []))) ∧ w'.cell? ⟨wz.heap.size, k, none⟩ = some (.string (str (core ++ (ends word).getD k []))) ∧ Below wo.heap.size wo w')
                            (first | assumption | exact kept2 (by assumption) ((Below.refl _ _).drew))
                            (first | (go_at_call 28; refine (HC.out _ (heldB2 (by assumption))).mono ?_; rintro e w6 ⟨rfl, hB6⟩; have hS1 : w6.cell? ⟨wz.heap.size, i, none⟩ = some (.string (str (core ++ (ends word).getD i []))) ∧ w6.cell? ⟨wz.heap.size, k, none⟩ = some (.string (str (core ++ (ends word).getD k []))) ∧ Below wo.heap.size wo w6 := kept2 (by assumption) hB6))
                          have m1 : (sgn i k != max (-1) (min 1 ((i : Int) - (k : Int)))) = false := by rw [sgn_minmax hil hkl]; simp
                          have HX := Lib.hid hS1.2.2
                          clear hS1 hS0
                          go_wp2_with fail
                          go_roundw
                          case rel => exact ⟨_, _, _, k + 1, rfl, rfl, rfl, by go_num, by omega, HX⟩
                          case measure => simp [intOf]; omega
                        · have hke : k = 10 := by omega
                          subst hke
                          go_wp2_with fail
                          go_roundw
                          case rel => exact ⟨_, _, _, _, i + 1, rfl, rfl, rfl, rfl, by go_num, by omega, JJ⟩
                          case measure => simp [intOf]; omega
                    · have hie : i = 10 := by omega
                      subst hie
                      go_wp2_with fail
                      go_ret
                      exact ⟨rfl, HBY.out.trans (J.out.mono HBY.out.size)⟩
          · have hwd : isWord word = false := by simpa using hwd
            go_wp2_with fail
            go_ret
            exact ⟨rfl, HB0.out⟩
      · have hs : shortB [core, word] = false := by simpa using hs
        go_wp2_with fail
        go_ret
        exact ⟨rfl, HB0.out⟩
    · have p3 : 2147483647 < word.length := by omega
      clear g2
      go_enter Tryz.func10, Tryz.ntmps10
      go_wp2_with fail
      go_ret
      exact ⟨rfl, Below.refl _ _⟩
  · have p3 : 2147483647 < core.length := by omega
    clear g1
    go_enter Tryz.func10, Tryz.ntmps10
    go_wp2_with fail
    go_ret
    exact ⟨rfl, Below.refl _ _⟩
end Go.Proofs.Tz
