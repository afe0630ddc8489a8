/- Contract of impl.MavenCompareText. -/
import Derived.Test.YtcehboopgjpfcaaGreatDoorF8
import Derived.BigQuiet
namespace Go.Proofs.Tz
open Go.RowKit Mv

/-- A text that is looked at: plain bytes, numbers below V, not too long. -/
structure Txt (V : Nat) (l : Bs) : Prop where
  len : l.length ≤ 100000
  asc : Asc l
  nums : Nums V l

set_option maxHeartbeats 4000000 in
set_option maxRecDepth 100000 in
theorem mctext28 (K : Nat) (HI : ItoaSaid K) (a b : Bs) (c : Int) (w : World) (hE : EnvL w) (hK : KwAt w) (ta : Txt (WB ^ K) a) (tb : Txt (WB ^ K) b) (hc : vcmp (mvTokens a) (mvTokens b) = some c) :
    Calls Tryz.prog 28 #[.string (str a), .string (str b)] w fun e w' => e = .returned (.tuple #[.int .i64 c, .bool true]) ∧ Below w.heap.size w w' := by
  have hp := parse_any K HI a ta.len ta.asc ta.nums w hE
  have hs := fun (w' : World) (v : Value) (hB : Below w.heap.size w w') (hT : Toks 84 w' w.heap.size v (mvTokens a)) =>
    compareStr44 K HI v (mvTokens a) w.heap.size b c w' (hE.below hB) (hK.below hB) hT (by have := mv_len a; have := ta.len; omega) (vok_mv a (by have := ta.len; omega)) tb.len tb.asc tb.nums hc
  have HP := Lib.hid hp
  have HS := Lib.hid hs
  clear hp hs hE hK HI ta tb hc
  go_enter Tryz.func28, Tryz.ntmps28
  go_wp2_with fail
  (with_reducible refine (HP.out).mono ?_)
  rintro e w1 ⟨v, rfl, hT, hB⟩
  obtain ⟨av, cv, rfl⟩ := toks_form hT
  have H44 := Lib.hid (HS.out w1 _ hB hT)
  have HB := Lib.hid hB
  clear hT hB HS
  go_wp2_with fail
  (with_reducible refine (H44.out).mono ?_)
  rintro e w2 ⟨rfl, hB2⟩
  have HB2 := Lib.hid (HB.out.trans (hB2.mono HB.out.size))
  clear hB2 HB
  go_wp2_with fail
  go_quiet (fail)
  go_wp2_with fail
  go_ret2
  exact ⟨rfl, below_drewN' HB2.out _⟩
end Go.Proofs.Tz
