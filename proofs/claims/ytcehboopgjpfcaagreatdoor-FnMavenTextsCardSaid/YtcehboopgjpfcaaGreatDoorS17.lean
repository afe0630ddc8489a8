/- Contracts of impl.maven and impl.MavenCompare. -/
import Derived.Test.YtcehboopgjpfcaaGreatDoorS16
import Derived.Test.YtcehboopgjpfcaaGreatDoorV1
import Derived.BigQuiet
import Derived.Deep.QuietTactic
namespace Go.Proofs.Tz
open Go.RowKit Mv

set_option maxHeartbeats 8000000 in
set_option maxRecDepth 100000 in
theorem implmaven51 (v : Value) (ts : List Tok) (base : Nat) (w : World) (hT : Toks 40 w base v ts) (hl : ts.length ≤ 1000000) :
    Calls Tryz.prog 51 #[v] w fun e w' => ∃ v', e = .returned (.agg #[v']) ∧ Toks 84 w' w.heap.size v' ts ∧ Below w.heap.size w w' := by
  obtain ⟨i68, z68, hi68, hz68, hs68, hb68, hc68⟩ := info68
  obtain ⟨ax, cx, rfl⟩ := toks_form hT
  obtain ⟨wo, hwo⟩ : ∃ x, w.alloc (Obj.cells #[Value.slice none 0 0] 66) = x := ⟨_, rfl⟩
  have hBo : Below w.heap.size w wo := by rw [← hwo]; exact (Below.refl _ _).alloc (Nat.le_refl _) _
  have hA1 : Arr wo w.heap.size 66 [.slice none 0 0] := by rw [← hwo]; exact Arr.new w 66 [.slice none 0 0]
  have hT1 := hT.below hBo
  have HT := Lib.hid hT1
  have HBo := Lib.hid hBo
  have HA1 := Lib.hid hA1
  clear hT hT1 hBo hA1
  go_enter Tryz.func51, Tryz.ntmps51
  go_wp2_with fail
  clear hwo
  go_loopw [3, 5, 8] (fun o t x wr => ∃ (vo tv : Value) (k : Nat), vo = o ∧ tv = t ∧ x = .int .i64 (k : Int) ∧ k ≤ ts.length ∧ Hid (wr.ownsRow wo.heap.size 68 3 vo k (tcs (ts.take k))) ∧ Hid (Below wo.heap.size wo wr)) (fun _ _ x _ => ts.length - (intOf x).toNat)
  case atStart => exact ⟨_, _, 0, rfl, rfl, rfl, Nat.zero_le _, Lib.hid (World.ownsRow_nil _ _ _ _), Lib.hid (Below.refl _ _)⟩
  case round =>
    obtain ⟨vo, tv, k, rfl, rfl, rfl, hk, H1, H2⟩ := hrel
    by_cases hkl : k < ts.length
    · obtain ⟨t, ht⟩ : ∃ t, ts[k]? = some t := ⟨_, List.getElem?_eq_getElem hkl⟩
      have hsp : ts = ts.take k ++ t :: ts.drop (k + 1) := by
        have h1 : ts.drop k = t :: ts.drop (k + 1) := by
          rw [List.drop_eq_getElem_cons hkl]
          rw [List.getElem?_eq_getElem hkl] at ht
          injection ht with ht; rw [ht]
        rw [← h1, List.take_append_drop]
      have hr := HT.out.below H2.out
      rw [hsp] at hr
      obtain ⟨g, cap, hv, _, _, c0, c1, c2⟩ := hr.read
      have htk : (ts.take k).length = k := by rw [List.length_take]; omega
      rw [htk] at c0 c1 c2
      injection hv with e1 e2 e3
      subst e1
      have HTK := Lib.hid ht
      have hszo : wo.heap.size ≤ wr.heap.size := H2.out.size
      clear hsp hr e2 e3 htk ht
      go_wp2_with (first | (at_builtin; refine wpList_append_lies _ rfl (.tmp 12) (.tmp 14) 62 rfl wo.heap.size 68 i68 z68 3 40 Tryz.underlying62 hi68 hz68 hs68 hb68 hc68 (by decide) vo k (tcs (ts.take k)) rfl ((H1.out.alloc _).alloc _) ⟨wr.heap.size + 1, 0, none⟩ 1 1 [sv t.p, sv t.v, .bool t.n] rfl rfl (by have := World.news_of_block (cs := #[sv t.p, sv t.v, .bool t.n]) (t := 68) (fr := (0, 0)) (heap_alloc_new (wr.alloc (Obj.cells #[sv t.p, sv t.v, .bool t.n] 40)) _); rw [size_alloc] at this; exact this) (by intro u hu; simp at hu; rcases hu with rfl | rfl | rfl <;> rfl) (by decide) (by unfold maxLen; omega) (by omega) (by simp; omega) _ rfl ?_; intro gg cc w3 hown3 hgrow3 hat3 hlt3))
      have hB3 : Below wo.heap.size wo w3 := ((H2.out.alloc hszo _).alloc (by rw [size_alloc]; omega) _).grown hgrow3 (by rw [size_alloc, size_alloc]; omega) (fun j hj => (H1.out.lt j hj).1)
      have hO3 : w3.ownsRow wo.heap.size 68 3 (.slice (some ⟨gg, 0, none⟩) (k + 1) cc) (k + 1) (tcs (ts.take (k + 1))) := by
        have : tcs (ts.take (k + 1)) = tcs (ts.take k) ++ [sv t.p, sv t.v, .bool t.n] := by rw [take_snoc HTK.out, tcs_append]; rfl
        rw [this]; exact hown3
      have HB3 := Lib.hid hB3
      have HO3 := Lib.hid hO3
      clear hB3 hO3 hown3 hgrow3 hat3 hlt3
      go_wp2_with fail
      go_roundw
      case rel => exact ⟨_, _, k + 1, rfl, rfl, by go_num, by omega, HO3, HB3⟩
      case measure => simp [intOf]; omega
    · have hke : k = ts.length := by omega
      have h1 := H1.out
      rw [hke, List.take_length] at h1
      have h66 := zzmaven66 vo ts wo.heap.size wr h1 hl
      have H66 := Lib.hid h66
      clear h1 h66
      go_wp2_with fail
      (with_reducible refine (H66.out).mono ?_)
      rintro e w4 ⟨v4, rfl, hT4, hB4⟩
      obtain ⟨a4, c4, rfl⟩ := toks_form hT4
      have hb : Below wo.heap.size wo w4 := H2.out.trans (hB4.mono H2.out.size)
      have hA4 := HA1.out.below hb
      have d0 : w4.cell? ⟨w.heap.size, 0, none⟩ = some (.slice none 0 0) := hA4.cell rfl
      have f0 := hA4.free 0
      have hw : wr.heap.size ≥ w.heap.size + 1 := by have := H2.out.size; have := HA1.out.lt; omega
      have HF := Lib.hid (hA4.set 0 (Value.slice a4 ts.length c4))
      have hB5 : Below w.heap.size w (w4.setCell ⟨w.heap.size, 0, none⟩ (Value.slice a4 ts.length c4)) := (HBo.out.trans (hb.mono HBo.out.size)).setCell (Nat.le_refl _) _
      have hO5 := ownsRow_setCell_other hT4 (a := ⟨w.heap.size, 0, none⟩) (by intro e; have h9 : wr.heap.size ≤ w.heap.size := (hT4.lt _ e).1; omega) (Value.slice a4 ts.length c4)
      have HB5 := Lib.hid hB5
      have HO5 := Lib.hid hO5
      clear hT4 hB4 hb hA4 hB5 hO5
      go_wp2_with fail
      have y0 := HF.out.cell (j := 0) rfl
      refine bodyPost_ret (v := .agg #[.slice a4 ts.length c4]) (by simp [results, Tryz.results51, go_sem, y0]) rfl ⟨_, rfl, ?_, HB5.out⟩
      exact ownsRow_mono HO5.out (by omega)

set_option maxHeartbeats 4000000 in
theorem mcompare37 (va vb : Value) (a b : List Tok) (ba bb : Nat) (c : Int) (w : World) (hE : Env w) (hK : KwAt w) (hA : Toks 40 w ba va a) (hB : Toks 40 w bb vb b) (la : a.length ≤ 1000000) (lb : b.length ≤ 1000000)
    (ga : ∀ t ∈ a, Vok t.v) (gb : ∀ t ∈ b, Vok t.v) (hc : vcmp a b = some c) :
    Calls Tryz.prog 37 #[va, vb] w fun e w' => e = .returned (.tuple #[.int .i64 c, .bool true]) ∧ Below w.heap.size w w' := by
  have H1 := Lib.hid (implmaven51 va a ba w hA la)
  have H2 := Lib.hid fun w' (h : Below w.heap.size w w') => implmaven51 vb b bb w' (hB.below h) lb
  have H3 := Lib.hid fun w' va vb x y (h : Below w.heap.size w w') (h1 : Toks 84 w' x va a) (h2 : Toks 84 w' y vb b) => zzcompare50 va vb a b x y c w' (hE.below h) (hK.below h) h1 h2 la lb ga gb hc
  clear hE hK hA hB ga gb hc
  go_enter Tryz.func37, Tryz.ntmps37
  go_wp2_with fail
  (with_reducible refine (H1.out).mono ?_)
  rintro e w1 ⟨v1, rfl, hT1, hB1⟩
  have HT1 := Lib.hid hT1
  have HB1 := Lib.hid hB1
  have H2 := Lib.hid (H2.out w1 hB1)
  clear hT1 hB1
  go_wp2_with fail
  (with_reducible refine (H2.out).mono ?_)
  rintro e w2 ⟨v2, rfl, hT2, hB2⟩
  have hB12 := HB1.out.trans (hB2.mono HB1.out.size)
  have H3 := Lib.hid (H3.out w2 v1 v2 _ _ hB12 (HT1.out.below hB2) hT2)
  have HB2 := Lib.hid hB12
  clear hT2 hB2 hB12
  go_wp2_with fail
  (with_reducible refine (H3.out).mono ?_)
  rintro e w3 ⟨rfl, hB3⟩
  have HB3 := Lib.hid (HB2.out.trans (hB3.mono HB2.out.size))
  clear hB3
  go_wp2_with fail
  go_quiet (fail)
  go_wp2_with fail
  go_ret2
  exact ⟨rfl, below_drewN' HB3.out _⟩
end Go.Proofs.Tz
