/- Contract of two versions' compare. -/
import Derived.Test.YtcehboopgjpfcaaGreatDoorF6
namespace Go.Proofs.Tz
open Go.RowKit Mv

set_option maxHeartbeats 4000000 in
set_option maxRecDepth 100000 in
theorem compare55 (va vb : Value) (a b : List Tok) (ba bb : Nat) (c : Int) (w : World) (hE : Env w) (hK : KwAt w) (hA : Toks 84 w ba va a) (hB : Toks 84 w bb vb b) (la : a.length ≤ 1000000) (lb : b.length ≤ 1000000)
    (ga : ∀ t ∈ a, Vok t.v) (gb : ∀ t ∈ b, Vok t.v) (hc : vcmp a b = some c) :
    Calls Tryz.prog 55 #[.agg #[va], .agg #[vb]] w fun e w' => e = .returned (.tuple #[.int .i64 c, .nilIface]) ∧ Below w.heap.size w w' := by
  obtain ⟨aa, ca, rfl⟩ := toks_form hA
  obtain ⟨ab, cb, rfl⟩ := toks_form hB
  obtain ⟨wz, hwz⟩ : ∃ x, x = (w.alloc (Obj.cells #[Value.slice aa a.length ca] 66)).alloc (Obj.cells #[Value.slice ab b.length cb] 66) := ⟨_, rfl⟩
  have hBz : Below w.heap.size w wz := by rw [hwz]; exact ((Below.refl _ _).alloc (Nat.le_refl _) _).alloc (by rw [size_alloc]; omega) _
  have z1 : wz.cell? ⟨w.heap.size, 0, none⟩ = some (.slice aa a.length ca) := by rw [hwz]; exact ((Arr.new w 66 [Value.slice aa a.length ca]).alloc _).cell (j := 0) rfl
  have z2 : wz.cell? ⟨w.heap.size + 1, 0, none⟩ = some (.slice ab b.length cb) := by
    rw [hwz]
    have h := Arr.new (w.alloc (Obj.cells #[Value.slice aa a.length ca] 66)) 66 [Value.slice ab b.length cb]
    rw [size_alloc] at h
    exact h.cell (j := 0) rfl
  have h73 := vequal73 _ _ a b ba bb wz (hA.below hBz) (hB.below hBz) la lb
  have h74 := fun w' r (h : Below wz.heap.size wz w') (hr : vless a b = some r) => vless74 _ _ a b ba bb r w' ((hE.below hBz).below h) ((hK.below hBz).below h) ((hA.below hBz).below h) ((hB.below hBz).below h) la lb ga gb hr
  have H73 := Lib.hid h73
  have H74 := Lib.hid h74
  have HBz := Lib.hid hBz
  have HC := Lib.hid hc
  clear h73 h74 hBz hE hK hA hB ga gb hc
  go_enter Tryz.func55, Tryz.ntmps55
  go_wp2_with fail
  rw [← hwz]
  clear hwz
  (with_reducible refine (H73.out).mono ?_)
  rintro e w1 ⟨rfl, hB1⟩
  have y1 := cell_keep hB1 z1
  have y2 := cell_keep hB1 z2
  by_cases hv : veq a b = true
  · have h0 : c = 0 := by
      have h := HC.out
      rw [vcmp, if_pos hv] at h
      injection h with h; exact h.symm
    subst h0
    have HB1 := Lib.hid (HBz.out.trans (hB1.mono HBz.out.size))
    clear hB1
    go_wp2_with fail
    go_ret2
    exact ⟨rfl, HB1.out⟩
  · have hv : veq a b = false := by simpa using hv
    have h := HC.out
    rw [vcmp, if_neg (by rw [hv]; decide)] at h
    cases hl : vless a b with
    | none => rw [hl] at h; cases h
    | some r =>
      rw [hl] at h
      have H := Lib.hid (H74.out w1 r hB1 hl)
      have HB1 := Lib.hid (HBz.out.trans (hB1.mono HBz.out.size))
      clear hB1 hl
      cases r
      · injection h with h
        subst h
        go_wp2_with fail
        (with_reducible refine (H.out).mono ?_)
        rintro e w2 ⟨rfl, hB2⟩
        have HB2 := Lib.hid (HB1.out.trans (hB2.mono HB1.out.size))
        clear hB2
        go_wp2_with fail
        go_ret2
        exact ⟨rfl, HB2.out⟩
      · injection h with h
        subst h
        go_wp2_with fail
        (with_reducible refine (H.out).mono ?_)
        rintro e w2 ⟨rfl, hB2⟩
        have HB2 := Lib.hid (HB1.out.trans (hB2.mono HB1.out.size))
        clear hB2
        go_wp2_with fail
        go_ret2
        exact ⟨rfl, HB2.out⟩
end Go.Proofs.Tz
