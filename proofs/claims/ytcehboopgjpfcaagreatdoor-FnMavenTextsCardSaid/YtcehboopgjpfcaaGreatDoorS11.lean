/- Contract of the reference's MavenParse. -/
import Derived.Test.YtcehboopgjpfcaaGreatDoorS10
import Derived.Test.YtcehboopgjpfcaaGreatDoorS8
namespace Go.Proofs.Mv
theorem tokS_ne : ∀ (r pre cur : Bs), tokS pre cur r ≠ []
  | [], _, _ => by simp [tokS]
  | c :: r, pre, cur => by
    rw [tokS]
    split
    · simp
    · split
      · simp
      · exact tokS_ne r pre (cur ++ [c])
theorem tokS_len' : ∀ (r pre cur : Bs), (tokS pre cur r).length ≤ r.length + 1
  | [], _, _ => by simp [tokS]
  | c :: r, pre, cur => by
    rw [tokS]
    split
    · have := tokS_len' r [c] []; simp; omega
    · split
      · have := tokS_len' r [45] [c]; simp; omega
      · have := tokS_len' r pre (cur ++ [c]); simp; omega
end Go.Proofs.Mv
namespace Go.Proofs.Tz
open Go.RowKit Mv

set_option maxHeartbeats 4000000 in
theorem sparse27 (l : Bs) (hl : l.length ≤ 100000) (w : World) :
    Calls Tryz.prog 27 #[.string (str l)] w fun e w' => ∃ v, e = .returned v ∧ Toks 40 w' w.heap.size v (mvTokens l) ∧ Below w.heap.size w w' := by
  have hll : (lower l).length = l.length := by simp [lower]
  have H43 := Lib.hid (lower43 l (by omega) w)
  have H42 := Lib.hid fun w => tokens42 (lower l) (by omega) w
  have h41 := fun v w base h => trimmed41 v (tokS [] [] (lower l)) (tokS_ne _ _ _) (by have := tokS_len' (lower l) [] []; omega) base w h
  have H41 := Lib.hid h41
  have HE := Lib.hid (mv_spec l)
  clear hll h41
  go_enter Tryz.func27, Tryz.ntmps27
  go_wp2_with fail
  (with_reducible refine (H43.out).mono ?_)
  rintro e w1 ⟨rfl, hB1⟩
  have HB1 := Lib.hid hB1
  clear hB1
  go_wp2_with fail
  (with_reducible refine (H42.out _).mono ?_)
  rintro e w2 ⟨v2, rfl, hT2, hB2⟩
  have H3 := Lib.hid (H41.out v2 w2 _ hT2)
  have HB2 := Lib.hid (HB1.out.trans (hB2.mono HB1.out.size))
  clear hB2 hT2
  go_wp2_with fail
  (with_reducible refine (H3.out).mono ?_)
  rintro e w3 ⟨v3, rfl, hT3, hB3⟩
  have HT3 := Lib.hid hT3
  have HB3 := Lib.hid (HB2.out.trans (hB3.mono HB2.out.size))
  clear hB3 hT3
  go_wp2_with fail
  go_ret
  exact ⟨_, rfl, by rw [HE.out]; exact ownsRow_mono HT3.out HB2.out.size, HB3.out⟩
end Go.Proofs.Tz
