/- Contracts of impl.MavenCompare's doors. -/
import Derived.Test.YtcehboopgjpfcaaGreatDoorF7
import Derived.Test.YtcehboopgjpfcaaGreatDoorLA
import Derived.Deep.RegionLaw
import Derived.Deep.AppendLies
namespace Go.Proofs.Tz
open Go.RowKit Mv

set_option maxHeartbeats 4000000 in
theorem zztoken76 (t : Tok) (w : World) : Calls Tryz.prog 76 #[tagg t] w fun e w' => e = .returned (tagg t) ∧ Below w.heap.size w w' := by
  obtain ⟨p, v, n⟩ := t
  have hBn := fun a b : Obj => ((Below.refl w.heap.size w).alloc (Nat.le_refl _) a).alloc (by rw [size_alloc]; omega) b
  have HBn := Lib.hid hBn
  clear hBn
  unfold tagg sv
  go_enter Tryz.func76, Tryz.ntmps76
  go_wp2_with fail
  refine bodyPost_ret (v := .agg #[.string (str p), .string (str v), .bool n]) (by simp [results, Tryz.results76, go_sem]) rfl ⟨rfl, ?_⟩
  exact HBn.out _ _

set_option maxHeartbeats 4000000 in
theorem zzcompare50 (va vb : Value) (a b : List Tok) (ba bb : Nat) (c : Int) (w : World) (hE : Env w) (hK : KwAt w) (hA : Toks 84 w ba va a) (hB : Toks 84 w bb vb b) (la : a.length ≤ 1000000) (lb : b.length ≤ 1000000)
    (ga : ∀ t ∈ a, Vok t.v) (gb : ∀ t ∈ b, Vok t.v) (hc : vcmp a b = some c) :
    Calls Tryz.prog 50 #[.agg #[va], .agg #[vb]] w fun e w' => e = .returned (.tuple #[.int .i64 c, .nilIface]) ∧ Below w.heap.size w w' := by
  obtain ⟨wz, hwz⟩ : ∃ x, (w.alloc (Obj.cells #[va] 66)).alloc (Obj.cells #[vb] 66) = x := ⟨_, rfl⟩
  have hBz : Below w.heap.size w wz := by rw [← hwz]; exact ((Below.refl _ _).alloc (Nat.le_refl _) _).alloc (by rw [size_alloc]; omega) _
  have h := compare55 va vb a b ba bb c wz (hE.below hBz) (hK.below hBz) (hA.below hBz) (hB.below hBz) la lb ga gb hc
  have z1 : wz.cell? ⟨w.heap.size, 0, none⟩ = some va := by rw [← hwz]; exact ((Arr.new w 66 [va]).alloc _).cell (j := 0) rfl
  have z2 : wz.cell? ⟨w.heap.size + 1, 0, none⟩ = some vb := by
    rw [← hwz]
    have h := Arr.new (w.alloc (Obj.cells #[va] 66)) 66 [vb]
    rw [size_alloc] at h
    exact h.cell (j := 0) rfl
  have H := Lib.hid h
  have HBz := Lib.hid hBz
  obtain ⟨xa, ca, rfl⟩ := toks_form hA
  obtain ⟨xb, cb, rfl⟩ := toks_form hB
  clear h hBz hE hK hA hB ga gb hc
  go_enter Tryz.func50, Tryz.ntmps50
  go_wp2_with fail
  (with_reducible refine (H.out).mono ?_)
  rintro e w1 ⟨rfl, hB1⟩
  have HB1 := Lib.hid (HBz.out.trans (hB1.mono HBz.out.size))
  clear hB1
  go_wp2_with fail
  go_ret2
  exact ⟨rfl, HB1.out⟩

set_option maxHeartbeats 8000000 in
set_option maxRecDepth 100000 in
theorem zzmaven66 (v : Value) (ts : List Tok) (base : Nat) (w : World) (hT : Toks 68 w base v ts) (hl : ts.length ≤ 1000000) :
    Calls Tryz.prog 66 #[v] w fun e w' => ∃ v', e = .returned (.agg #[v']) ∧ Toks 84 w' w.heap.size v' ts ∧ Below w.heap.size w w' := by
  obtain ⟨i84, z84, hi84, hz84, hs84, hb84, hc84⟩ := info84
  obtain ⟨ax, cx, rfl⟩ := toks_form hT
  obtain ⟨wo, hwo⟩ : ∃ x, (w.alloc (Obj.cells #[Value.slice none 0 0] 66)).alloc (Obj.cells #[Value.slice none 0 0] 66) = x := ⟨_, rfl⟩
  have hBo : Below w.heap.size w wo := by rw [← hwo]; exact ((Below.refl _ _).alloc (Nat.le_refl _) _).alloc (by rw [size_alloc]; omega) _
  have hsz : wo.heap.size = w.heap.size + 2 := by rw [← hwo, size_alloc, size_alloc]
  have hA1 : Arr wo w.heap.size 66 [.slice none 0 0] := by rw [← hwo]; exact (Arr.new w 66 [.slice none 0 0]).alloc _
  have hA2 : Arr wo (w.heap.size + 1) 66 [.slice none 0 0] := by
    rw [← hwo]
    have h := Arr.new (w.alloc (Obj.cells #[Value.slice none 0 0] 66)) 66 [.slice none 0 0]
    rw [size_alloc] at h; exact h
  have HT := Lib.hid hT
  have HBo := Lib.hid hBo
  have HSZ := Lib.hid hsz
  have HA1 := Lib.hid hA1
  have HA2 := Lib.hid hA2
  clear hT hBo hsz hA1 hA2
  go_enter Tryz.func66, Tryz.ntmps66
  go_wp2_with fail
  clear hwo
  go_loopw [5, 8] (fun t x wr => ∃ (tv vo : Value) (k : Nat), tv = t ∧ x = .int .i64 (k : Int) ∧ k ≤ ts.length ∧ Hid (wr.ownsRow (w.heap.size + 2) 84 3 vo k (tcs (ts.take k))) ∧ Hid (Arr wr (w.heap.size + 1) 66 [vo]) ∧ Hid (Arr wr w.heap.size 66 [.slice none 0 0]) ∧ Hid (Below w.heap.size w wr) ∧ w.heap.size + 2 ≤ wr.heap.size) (fun _ x _ => ts.length - (intOf x).toNat)
  case atStart => exact ⟨_, _, 0, rfl, rfl, Nat.zero_le _, Lib.hid (World.ownsRow_nil _ _ _ _), HA2, HA1, HBo, Nat.le_of_eq HSZ.out.symm⟩
  case round =>
    obtain ⟨tv, vo, k, rfl, rfl, hk, HO, HX, HY, HB, hszr⟩ := hrel
    obtain ⟨ao, co, rfl⟩ : ∃ a c, vo = .slice a k c := by
      rcases HO.out.2 with ⟨h, h0⟩ | ⟨g, cap, cur, h, _⟩
      · exact ⟨none, 0, by rw [h, h0]⟩
      · exact ⟨_, _, h⟩
    have hneb : some (w.heap.size + 1) ≠ (Value.slice ao k co).ownBlock ∧ some w.heap.size ≠ (Value.slice ao k co).ownBlock := by
      constructor
      · intro e; have := (HO.out.lt _ e.symm).1; omega
      · intro e; have := (HO.out.lt _ e.symm).1; omega
    have HNEB := Lib.hid hneb
    clear hneb
    by_cases hkl : k < ts.length
    · obtain ⟨t, ht⟩ : ∃ t, ts[k]? = some t := ⟨_, List.getElem?_eq_getElem hkl⟩
      have hsp : ts = ts.take k ++ t :: ts.drop (k + 1) := by
        have h1 : ts.drop k = t :: ts.drop (k + 1) := by
          rw [List.drop_eq_getElem_cons hkl]
          rw [List.getElem?_eq_getElem hkl] at ht
          injection ht with ht; rw [ht]
        rw [← h1, List.take_append_drop]
      have hal : Below wr.heap.size wr (wr.alloc (Obj.cells #[Value.string (str t.p), Value.string (str t.v), Value.bool t.n] 68)) := (Below.refl _ _).alloc (Nat.le_refl _) _
      have hr := HT.out.below HB.out
      rw [hsp] at hr
      obtain ⟨g, cap, hv, _, _, c0, c1, c2⟩ := hr.read
      have htk : (ts.take k).length = k := by rw [List.length_take]; omega
      rw [htk] at c0 c1 c2
      injection hv with e1 e2 e3
      subst e1
      obtain ⟨wq, hwq⟩ : ∃ x, wr.alloc (Obj.cells #[Value.string (str t.p), Value.string (str t.v), Value.bool t.n] 68) = x := ⟨_, rfl⟩
      have HTK := Lib.hid ht
      have z0 : wq.cell? ⟨w.heap.size + 1, 0, none⟩ = some (Value.slice ao k co) := by rw [← hwq]; exact (HX.out.alloc _).cell (j := 0) rfl
      have hq : Arr wq wr.heap.size 68 [sv t.p, sv t.v, .bool t.n] := by rw [← hwq]; exact Arr.new wr 68 [sv t.p, sv t.v, .bool t.n]
      have q0 : wq.cell? ⟨wr.heap.size, 0, none⟩ = some (.string (str t.p)) := hq.cell rfl
      have q1 : wq.cell? ⟨wr.heap.size, 1, none⟩ = some (.string (str t.v)) := hq.cell rfl
      have q2 : wq.cell? ⟨wr.heap.size, 2, none⟩ = some (.bool t.n) := hq.cell rfl
      have H76 := Lib.hid (show ∀ w, Calls Tryz.prog 76 #[.agg #[.string (str t.p), .string (str t.v), .bool t.n]] w fun e w' => e = .returned (.agg #[.string (str t.p), .string (str t.v), .bool t.n]) ∧ Below w.heap.size w w' from fun w => zztoken76 t w)
      have HOq : Hid (wq.ownsRow (w.heap.size + 2) 84 3 (Value.slice ao k co) k (tcs (ts.take k))) := by rw [← hwq]; exact Lib.hid (HO.out.alloc _)
      have HXq : Hid (Arr wq (w.heap.size + 1) 66 [Value.slice ao k co]) := by rw [← hwq]; exact Lib.hid (HX.out.alloc _)
      have HYq : Hid (Arr wq w.heap.size 66 [.slice none 0 0]) := by rw [← hwq]; exact Lib.hid (HY.out.alloc _)
      have HBq : Hid (Below w.heap.size w wq) := by rw [← hwq]; exact Lib.hid (HB.out.alloc HB.out.size _)
      have hszq : w.heap.size + 2 ≤ wq.heap.size := by rw [← hwq, size_alloc]; omega
      clear hsp hr e2 e3 htk ht hal hq
      go_wp2_with fail
      clear hwq
      go_region_law (first | (refine step_append_lies _ (by rfl) (.tmp 13) (.tmp 16) 64 (by rfl) (w.heap.size + 2) 84 i84 z84 3 40 Tryz.underlying64 hi84 hz84 hs84 hb84 hc84 (by decide) (Value.slice ao k co) k (tcs (ts.take k)) (by rfl) ((ownsRow_below (World.ownsRow.drew HOq.out) hB1).alloc _) ⟨w1.heap.size, 0, none⟩ 1 1 [sv t.p, sv t.v, .bool t.n] (by rfl) rfl (World.news_of_block (cs := #[sv t.p, sv t.v, .bool t.n]) (t := 84) (fr := (0, 0)) (heap_alloc_new _ _)) (by intro u hu; simp at hu; rcases hu with rfl | rfl | rfl <;> rfl) (by decide) (by unfold maxLen; omega) (by omega) (by have h9 : wq.heap.size ≤ w1.heap.size := hB1.size; simp; omega) _ rfl ?_; intro gg cc w3 hown3 hgrow3 hat3 hlt3; have hX3 : Arr w3 (w.heap.size + 1) 66 [Value.slice ao k co] := (((Arr.drew HXq.out).below hB1).alloc _).other hgrow3 HNEB.out.1; have hY3 : Arr w3 w.heap.size 66 [Value.slice none 0 0] := (((Arr.drew HYq.out).below hB1).alloc _).other hgrow3 HNEB.out.2; have x3 : w3.cell? ⟨w.heap.size + 1, 0, none⟩ = some (Value.slice ao k co) := hX3.cell rfl; have f3 := hX3.free 0) | (go_simp; go_at_call 76; refine (H76.out _).mono ?_; rintro e w1 ⟨rfl, hB1⟩; have z1 := cell_keep hB1 z0; have z2 : ∀ o : Obj, (w1.alloc o).cell? ⟨w.heap.size + 1, 0, none⟩ = some (Value.slice ao k co) := fun o => (((Arr.drew HXq.out).below hB1).alloc o).cell rfl))
      all_goals
        have hB3 : Below w.heap.size w w3 := ((HBq.out.drew.trans (hB1.mono HBq.out.drew.size)).alloc (HBq.out.drew.trans (hB1.mono HBq.out.drew.size)).size _).grown hgrow3 (by have h9 : wq.heap.size ≤ w1.heap.size := hB1.size; rw [size_alloc]; omega) (fun j hj => by have := (HOq.out.lt j hj).1; omega)
        have hO3 := ownsRow_setCell_other hown3 (a := ⟨w.heap.size + 1, 0, none⟩) (by intro e; have h9 : w.heap.size + 2 ≤ w.heap.size + 1 := (hown3.lt _ e).1; omega) (Value.slice (some ⟨gg, 0, none⟩) (k + 1) cc)
        have ho3 : (w3.setCell ⟨w.heap.size + 1, 0, none⟩ (Value.slice (some ⟨gg, 0, none⟩) (k + 1) cc)).ownsRow (w.heap.size + 2) 84 3 (.slice (some ⟨gg, 0, none⟩) (k + 1) cc) (k + 1) (tcs (ts.take (k + 1))) := by
          rw [take_snoc HTK.out, tcs_append]; exact hO3
        have HO3 := Lib.hid ho3
        have HX3 := Lib.hid (hX3.set 0 (Value.slice (some ⟨gg, 0, none⟩) (k + 1) cc))
        have HY3 := Lib.hid (hY3.setOther (a := ⟨w.heap.size + 1, 0, none⟩) (Nat.ne_of_lt (Nat.lt_succ_self _)) (Value.slice (some ⟨gg, 0, none⟩) (k + 1) cc))
        have HB3 := Lib.hid (show Below w.heap.size w (w3.setCell ⟨w.heap.size + 1, 0, none⟩ (Value.slice (some ⟨gg, 0, none⟩) (k + 1) cc)) from hB3.setCell (Nat.le_succ _) _)
        have hs3 : w.heap.size + 2 ≤ (w3.setCell ⟨w.heap.size + 1, 0, none⟩ (Value.slice (some ⟨gg, 0, none⟩) (k + 1) cc)).heap.size := by rw [size_set]; have := (hown3.lt gg rfl); omega
        clear hown3 hgrow3 hat3 hlt3 hB3 hO3 ho3
        go_wp2_with fail
        go_roundw
        case rel => exact ⟨_, _, k + 1, rfl, by go_num, by omega, HO3, HX3, HY3, HB3, hs3⟩
        case measure => simp [intOf]; omega
    · have hke : k = ts.length := by omega
      subst hke
      have c0 : wr.cell? ⟨w.heap.size + 1, 0, none⟩ = some (Value.slice ao ts.length co) := HX.out.cell rfl
      have d0 : wr.cell? ⟨w.heap.size, 0, none⟩ = some (.slice none 0 0) := HY.out.cell rfl
      have f0 := HY.out.free 0
      have HF := Lib.hid (HY.out.set 0 (Value.slice ao ts.length co))
      have HFB := Lib.hid (show Below w.heap.size w (wr.setCell ⟨w.heap.size, 0, none⟩ (Value.slice ao ts.length co)) from HB.out.setCell (Nat.le_refl _) _)
      have ho := HO.out
      rw [List.take_length] at ho
      have HOF := Lib.hid (ownsRow_setCell_other ho (a := ⟨w.heap.size, 0, none⟩) (fun e => HNEB.out.2 e.symm) (Value.slice ao ts.length co))
      clear ho
      go_wp2_with fail
      have y0 := HF.out.cell (j := 0) rfl
      refine bodyPost_ret (v := .agg #[.slice ao ts.length co]) (by simp [results, Tryz.results66, go_sem, y0]) rfl ⟨_, rfl, ?_, HFB.out⟩
      exact ownsRow_mono HOF.out (by omega)
end Go.Proofs.Tz
