/- How long a row of digits is made: floats, reckoned by the kernel. -/
import Derived.Test.YtcehboopgjpfcaaGreatDoorAA
import Derived.Test.YtcehboopgjpfcaaGreatDoorProg
import Derived.Laws.FloatArith
namespace Go.Proofs.Tz
open Go.RowKit Mv

def cL2 : Nat := 4614662735865160561
def qf (L : Nat) : Nat := (floatBits .quo .f64 (floatOfInt .f64 (L : Int)) cL2).getD 0
def il (L : Nat) : Int := (floatToIntVal .f64 (qf L) .i64).getD 0
def okL (L : Nat) : Bool := (floatBits .quo .f64 (floatOfInt .f64 (L : Int)) cL2).isSome && (floatToIntVal .f64 (qf L) .i64).isSome && decide (0 ≤ il L) && decide (il L ≤ 2000) && decide (2 ^ L ≤ 10 ^ (il L + 1).toNat)

theorem okL_all1 : (List.range 1100).all okL = true := by decide +kernel
theorem okL_all2 : (List.range 1100).all (fun k => okL (k + 1100)) = true := by decide +kernel
theorem okL_all3 : (List.range 1000).all (fun k => okL (k + 2200)) = true := by decide +kernel
theorem okL_all4 : (List.range 1000).all (fun k => okL (k + 3200)) = true := by decide +kernel
theorem okL_any {L : Nat} (h : L < 4200) : okL L = true := by
  by_cases h1 : L < 1100
  · exact List.all_eq_true.1 okL_all1 L (List.mem_range.2 h1)
  · by_cases h2 : L < 2200
    · have := List.all_eq_true.1 okL_all2 (L - 1100) (List.mem_range.2 (by omega))
      rwa [show L - 1100 + 1100 = L by omega] at this
    · by_cases h3 : L < 3200
      · have := List.all_eq_true.1 okL_all3 (L - 2200) (List.mem_range.2 (by omega))
        rwa [show L - 2200 + 2200 = L by omega] at this
      · have := List.all_eq_true.1 okL_all4 (L - 3200) (List.mem_range.2 (by omega))
        rwa [show L - 3200 + 3200 = L by omega] at this

theorem okL_props {L : Nat} (h : L < 4200) : floatBits .quo .f64 (floatOfInt .f64 (L : Int)) cL2 = some (qf L) ∧ floatToIntVal .f64 (qf L) .i64 = some (il L) ∧ 0 ≤ il L ∧ il L ≤ 2000 ∧ 2 ^ L ≤ 10 ^ (il L + 1).toNat := by
  have := okL_any h
  simp only [okL, Bool.and_eq_true, decide_eq_true_eq] at this
  obtain ⟨⟨⟨⟨h1, h2⟩, h3⟩, h4⟩, h5⟩ := this
  obtain ⟨a, ha⟩ := Option.isSome_iff_exists.1 h1
  obtain ⟨b, hb⟩ := Option.isSome_iff_exists.1 h2
  refine ⟨?_, ?_, h3, h4, h5⟩
  · rw [qf, ha]; rfl
  · rw [il, hb]; rfl

theorem quo_run {L : Nat} (h : L < 4200) (w : World) : (binOp .quo 158 (.float .f64 (floatOfInt .f64 (L : Int))) (.float .f64 4614662735865160561)).run Tryz.prog w = .ok (.float .f64 (qf L)) w :=
  run_float_arith w .quo 158 .f64 _ _ _ (okL_props h).1
theorem int_run {L : Nat} (h : L < 4200) (w : World) : (convert 158 3 (.float .f64 (qf L))).run Tryz.prog w = .ok (.int .i64 (il L)) w :=
  run_convert_float_int w 158 3 .f64 .i64 _ _ (by rw [Tryz.underlying158]; rfl) Tryz.underlying3 (okL_props h).2.1
end Go.Proofs.Tz
