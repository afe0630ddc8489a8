/- Contract of the mark of a turned comparison. -/
import Derived.Test.YtcehboopgjpfcaaGreatDoorF9
namespace Go.Proofs.Tz
open Go.RowKit Mv

set_option maxHeartbeats 1000000 in
theorem turned33 (c : Int) (hc : c = -1 ∨ c = 0 ∨ c = 1) (w : World) : Calls Tryz.prog 33 #[.int .i64 c, .int .i64 (-c)] w fun e w' => e = .returned (.bool true) ∧ w = w' := by
  rcases hc with rfl | rfl | rfl
  all_goals
    go_enter Tryz.func33, Tryz.ntmps33
    go_wp2_with fail
    go_ret
    exact ⟨rfl, rfl⟩
end Go.Proofs.Tz
