/- Contracts of CompareStr and impl.MavenCompareText. -/
import Derived.Test.YtcehboopgjpfcaaGreatDoorF7
import Derived.Test.YtcehboopgjpfcaaGreatDoorV1
import Derived.Deep.RegionHeld3
namespace Go.Proofs.Tz
open Go.RowKit Mv

/-- What a region keeps: the box, and nothing below. -/
theorem kept_next {wz w' w1 : World} {b : Nat} {v : Value} (h : w'.cell? ⟨b, 0, none⟩ = some v ∧ Below wz.heap.size wz w') (hB : Below w'.heap.size w' w1) : w1.cell? ⟨b, 0, none⟩ = some v ∧ Below wz.heap.size wz w1 :=
  ⟨cell_keep hB h.1, h.2.trans (hB.mono h.2.size)⟩

theorem heldB {p : Prop} {B : Nat} {w w' : World} (h : p ∧ Below B w w') : Below B w w' := h.2

set_option maxHeartbeats 4000000 in
set_option maxRecDepth 100000 in
theorem compareStr44 (K : Nat) (HI : ItoaSaid K) (va : Value) (a : List Tok) (ba : Nat) (l : Bs) (c : Int) (w : World) (hE : EnvL w) (hK : KwAt w) (hA : Toks 84 w ba va a) (la : a.length ≤ 1000000) (ga : ∀ t ∈ a, Vok t.v)
    (hl : l.length ≤ 100000) (ha : Asc l) (hsm : Nums (WB ^ K) l) (hc : vcmp a (mvTokens l) = some c) :
    Calls Tryz.prog 44 #[.agg #[va], .string (str l)] w fun e w' => e = .returned (.tuple #[.int .i64 c, .nilIface]) ∧ Below w.heap.size w w' := by
  obtain ⟨aa, ca, rfl⟩ := toks_form hA
  have gb := vok_mv l (by omega)
  obtain ⟨wz, hwz⟩ : ∃ x, x = w.alloc (Obj.cells #[Value.slice aa a.length ca] 66) := ⟨_, rfl⟩
  have hBz : Below w.heap.size w wz := by rw [hwz]; exact (Below.refl _ _).alloc (Nat.le_refl _) _
  have z1 : wz.cell? ⟨w.heap.size, 0, none⟩ = some (.slice aa a.length ca) := by rw [hwz]; exact (Arr.new w 66 [Value.slice aa a.length ca]).cell (j := 0) rfl
  have hml : (mvTokens l).length ≤ 1000000 := by have := mv_len l; omega
  have hp := fun w' (h : Below wz.heap.size wz w') => parse_any K HI l hl ha hsm w' ((hE.below hBz).below h)
  have hcm := fun w' v (h : Below wz.heap.size wz w') (hv : Toks 84 w' wz.heap.size v (mvTokens l)) => compare55 _ v a (mvTokens l) ba wz.heap.size c w' ((hE.below hBz).below h).env ((hK.below hBz).below h) ((hA.below hBz).below h) hv la hml ga gb hc
  have HP := Lib.hid hp
  have HCM := Lib.hid hcm
  have HBz := Lib.hid hBz
  clear hp hcm hBz hE hK hA ga gb hc HI ha hsm
  go_enter Tryz.func44, Tryz.ntmps44
  go_wp2_with fail
  rw [← hwz]
  clear hwz
  go_region_held3 (fun w' => w'.cell? ⟨w.heap.size, 0, none⟩ = some (.slice aa a.length ca) ∧ Below wz.heap.size wz w')
    (first | assumption | exact ⟨by assumption, (Below.refl _ _).drew⟩ | exact kept_next (by assumption) ((Below.refl _ _).drew) | exact ⟨by assumption, Below.refl _ _⟩)
    (first
      | (go_at_call 39; refine (HP.out _ (heldB (by assumption))).mono ?_; rintro e w1 ⟨v, rfl, hT, hB⟩; have hS1 : w1.cell? ⟨w.heap.size, 0, none⟩ = some (.slice aa a.length ca) ∧ Below wz.heap.size wz w1 := kept_next (by assumption) hB)
      | (go_at_call 55; refine (HCM.out _ _ (heldB (by assumption)) (by exact hT)).mono ?_; rintro e w2 ⟨rfl, hB2⟩; have hS2 : w2.cell? ⟨w.heap.size, 0, none⟩ = some (.slice aa a.length ca) ∧ Below wz.heap.size wz w2 := kept_next (by assumption) hB2))
  go_wp2_with fail
  go_ret2
  exact ⟨rfl, HBz.out.trans (hS2.2.mono HBz.out.size)⟩
end Go.Proofs.Tz
