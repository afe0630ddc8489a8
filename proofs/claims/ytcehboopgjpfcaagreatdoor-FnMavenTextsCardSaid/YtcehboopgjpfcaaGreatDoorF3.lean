/- Contracts of a token's place by its prefix and number. -/
import Derived.Test.YtcehboopgjpfcaaGreatDoorF2
namespace Go.Proofs.Tz
open Go.RowKit Mv

def Vok (v : Bs) : Prop := (allDig v = true ∨ NoNum v) ∧ v.length ≤ 1000000

set_option maxHeartbeats 4000000 in
theorem qual_any (g o : Nat) (t : Tok) (k : Nat) (w : World) (hE : Env w) (hT : TokAt w g o t) (hv : Vok t.v) (hp : t.p = [45] ∨ t.p = [46]) (hk : qord t = some k) :
    Calls Tryz.prog 124 #[.pointer (some ⟨g, o, none⟩)] w fun e w' => e = .returned (.tuple #[.int .i64 (k : Int), .nilIface]) ∧ Below w.heap.size w w' := by
  obtain ⟨c0, c1, c2⟩ := hT
  obtain ⟨p, v, n⟩ := t
  unfold sv at c0 c1
  have htl := str_toList
  have t1 : ByteArray.toList { data := #[45] } = [45] := str_toList [45]
  have t2 : ByteArray.toList { data := #[46] } = [46] := str_toList [46]
  obtain ⟨hd, hvl⟩ := hv
  rcases hd with hd | hd
  · have hcv := conv_digits (str v) w hE (by rw [str_size]; exact hvl) (by rw [str_list]; exact hd)
    have HCV := Lib.hid hcv
    rcases hp with hp | hp
    · have hkk : k = 2 := by
        rw [qord_hy hp, if_pos hd] at hk
        injection hk with hk; exact hk.symm
      subst hkk
      have hp : p = [45] := hp
      have m1 : (p == [45]) = true := by simp [hp]
      clear hp hk hcv hd
      go_enter Tryz.func124, Tryz.ntmps124
      go_wp2_with fail
      (with_reducible refine (HCV.out).mono ?_)
      rintro e w1 ⟨b, ws, base, rfl, _, _, _, _, _, hB⟩
      have k0 := cell_keep hB c0
      have HB := Lib.hid hB
      clear hB
      go_wp2_with fail
      go_ret2
      exact ⟨rfl, HB.out⟩
    · have hkk : k = 3 := by
        rw [qord_pt hp, if_pos hd] at hk
        injection hk with hk; exact hk.symm
      subst hkk
      have hp : p = [46] := hp
      have m1 : (p == [45]) = false := by simp [hp]
      have m2 : (p == [46]) = true := by simp [hp]
      clear hp hk hcv hd
      go_enter Tryz.func124, Tryz.ntmps124
      go_wp2_with fail
      (with_reducible refine (HCV.out).mono ?_)
      rintro e w1 ⟨b, ws, base, rfl, _, _, _, _, _, hB⟩
      have k0 := cell_keep hB c0
      have HB := Lib.hid hB
      clear hB
      go_wp2_with fail
      go_ret2
      exact ⟨rfl, HB.out⟩
  · have hcv : Calls Tryz.prog 70 #[.string (str v)] w fun e w' => (∃ a : Addr, e = .returned (.tuple #[.pointer none, .iface 296 (.pointer (some a))])) ∧ Below w.heap.size w w' := conv_bad (str v) w hE (by rw [str_size]; exact hvl) (by rw [str_list]; exact hd)
    have HCV := Lib.hid hcv
    have hnd : ¬ allDig v = true := by
      intro h
      have h1 := (allDig_iff v).1 h
      obtain ⟨c, hc⟩ := List.exists_mem_of_ne_nil v h1.1
      have := (hd c hc).1
      rw [h1.2 c hc] at this; cases this
    rcases hp with hp | hp
    · have hkk : k = 1 := by
        rw [qord_hy hp, if_neg hnd] at hk
        injection hk with hk; exact hk.symm
      subst hkk
      have hp : p = [45] := hp
      have m1 : (p == [45]) = true := by simp [hp]
      clear hp hk hcv hd hnd
      go_enter Tryz.func124, Tryz.ntmps124
      go_wp2_with fail
      (with_reducible refine (HCV.out).mono ?_)
      rintro e w1 ⟨⟨a, rfl⟩, hB⟩
      have k0 := cell_keep hB c0
      have HB := Lib.hid hB
      clear hB
      go_wp2_with fail
      go_ret2
      exact ⟨rfl, HB.out⟩
    · have hkk : k = 0 := by
        rw [qord_pt hp, if_neg hnd] at hk
        injection hk with hk; exact hk.symm
      subst hkk
      have hp : p = [46] := hp
      have m1 : (p == [45]) = false := by simp [hp]
      have m2 : (p == [46]) = true := by simp [hp]
      clear hp hk hcv hd hnd
      go_enter Tryz.func124, Tryz.ntmps124
      go_wp2_with fail
      (with_reducible refine (HCV.out).mono ?_)
      rintro e w1 ⟨⟨a, rfl⟩, hB⟩
      have k0 := cell_keep hB c0
      have HB := Lib.hid hB
      clear hB
      go_wp2_with fail
      go_ret2
      exact ⟨rfl, HB.out⟩

set_option maxHeartbeats 4000000 in
theorem byQual_any (g o : Nat) (a b : Tok) (x y : Nat) (w : World) (hE : Env w) (hT : TokAt w g o a) (ha : Vok a.v) (hb : Vok b.v) (hpa : a.p = [45] ∨ a.p = [46]) (hpb : b.p = [45] ∨ b.p = [46]) (hx : qord a = some x) (hy : qord b = some y) :
    Calls Tryz.prog 105 #[.pointer (some ⟨g, o, none⟩), tagg b] w fun e w' => e = .returned (.tuple #[.bool (decide (x < y)), .nilIface]) ∧ Below w.heap.size w w' := by
  have hB0 : Below w.heap.size w (w.alloc (Obj.cells #[Value.string (str b.p), Value.string (str b.v), Value.bool b.n] 84)) := (Below.refl _ _).alloc (Nat.le_refl _) _
  have hA : Arr (w.alloc (Obj.cells #[Value.string (str b.p), Value.string (str b.v), Value.bool b.n] 84)) w.heap.size 84 [sv b.p, sv b.v, .bool b.n] := Arr.new _ _ _
  have hq1 := qual_any g o a x _ (hE.below hB0) (hT.below hB0) ha hpa hx
  have hq2 := fun w' (hw : Below (w.alloc (Obj.cells #[Value.string (str b.p), Value.string (str b.v), Value.bool b.n] 84)).heap.size (w.alloc (Obj.cells #[Value.string (str b.p), Value.string (str b.v), Value.bool b.n] 84)) w') =>
    qual_any w.heap.size 0 b y w' ((hE.below hB0).below hw) (⟨(hA.below hw).cell (j := 0) rfl, (hA.below hw).cell (j := 1) rfl, (hA.below hw).cell (j := 2) rfl⟩ : TokAt w' w.heap.size 0 b) hb hpb hy
  have HB0 := Lib.hid hB0
  have HQ1 := Lib.hid hq1
  have HQ2 := Lib.hid hq2
  unfold tagg sv
  have hdec : decide ((x : Int) < (y : Int)) = decide (x < y) := by simp
  clear hB0 hA hq1 hq2 hE hT ha hb hpa hpb hx hy
  go_enter Tryz.func105, Tryz.ntmps105
  go_wp2_with fail
  (with_reducible refine (HQ1.out).mono ?_)
  rintro e w1 ⟨rfl, hB1⟩
  have HB1 := Lib.hid hB1
  clear hB1
  go_wp2_with fail
  (with_reducible refine (HQ2.out _ HB1.out).mono ?_)
  rintro e w2 ⟨rfl, hB2⟩
  have HB2 := Lib.hid (HB0.out.trans ((HB1.out.trans (hB2.mono HB1.out.size)).mono HB0.out.size))
  clear hB2
  go_wp2_with fail
  go_ret2
  exact ⟨by simp, HB2.out⟩
end Go.Proofs.Tz
