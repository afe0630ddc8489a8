/-
  FnMavenNumberParts returns true for every input and leaves its arguments as they were: numbers but 0 with points and hyphens between fall into just these tokens.
  Conditions: the listed package-level variables hold at the beginning what the program's text lays (the card ties them; unicode.CaseRanges and unicode/utf8.first by the form's constants).
-/
import Derived.Test.YtcehboopgjpfcaaGreatDoorL5
import Derived.Test.YtcehboopgjpfcaaGreatDoorRA
import Derived.Test.YtcehboopgjpfcaaGreatDoorTie
import Derived.Test.YtcehboopgjpfcaaGreatDoorCards
import Derived.ProofKit
import Derived.OpenShut
import Derived.LaidMore
import Derived.Lay
import Derived.SevenTiedAt
import Derived.Stop.Joined
namespace Go.Proofs.YtcehboopgjpfcaaGreatDoor
open Go.ChangeShapes Go.WideShapes Go.ChangeAt Go.RowKit Go.Proofs.Tz

theorem own : ownKnob Tryz.prog.godebug = none := by kernel_rfl

set_option maxRecDepth 100000 in
theorem numberParts_lifted (os : Os) (started : os.Started) (H : Type) (enc : TypeId × Value → H) :
    ReturnsInHanded {} Tryz.checked os 5 .any (fun w args => (Rows.fnMavenNumberPartsSpec.pre enc Tryz.prog Tryz.f5 Rows.fnMavenNumberPartsRow.domain false w args ∧ laidMetH Tryz.prog Rows.fnMavenNumberPartsRow.laid w) ∧ sizedMet enc Tryz.prog Tryz.f5 (OpenSpec.ofChange Rows.fnMavenNumberPartsSpec) false w args)
      (Rows.fnMavenNumberPartsSpec.post enc Tryz.prog Tryz.f5 false true false false) := by
  refine returnsInHanded_of_change_and (C := Tryz.checked) (X := fun w _ => laidMetH Tryz.prog Rows.fnMavenNumberPartsRow.laid w) (fun _ _ _ hh h => h.of_heap hh) own started (by kernel_rfl) Tryz.func5
    (ChangeSpec.witness_shaped (enc := enc) (C := Tryz.checked) (os := os) (X := fun w _ => laidMetH Tryz.prog Rows.fnMavenNumberPartsRow.laid w) false (World.laidAll Tryz.prog os Rows.fnMavenNumberPartsRow.laid) #[.slice none 0 0, .slice none 0 0] 8 (World.laidAll_os _ _ _)
      (World.shaped_of_ZipB (by kernel_rfl) (by kernel_rfl)) (by kernel_rfl) (by kernel_rfl) (by kernel_rfl)
      (by rw [MakeChecks.laidMetH_plain _ _ _ (by kernel_rfl)]; exact laidMet_laidAll _ (by kernel_rfl) (by kernel_rfl))) ?_
  intro W base args ds gs before hval0 hW _ _ hL _
  have hval : ∀ (j : Nat) t v, Tryz.f5.params[j]? = some t → args[j]? = some v → Value.okWide Tryz.prog W .any base t v := hval0
  have hW' := hW
  obtain ⟨p, q, hA0, hV, rfl, _, _⟩ := hW
  have hA : DataW.TrodAll enc Tryz.prog W 0 (fun _ => true) true Tryz.f5.params.toList args.toList ds p := hA0
  rw [Tryz.params5] at hA hval
  obtain ⟨v0, v1, d0, d1, p0, p1, rfl, rfl, rfl, h0, h1⟩ := trodAll_two hA
  obtain ⟨rfl, rfl⟩ := trodVars_none hV
  obtain ⟨a0, l0, c0, rfl⟩ := okWide_slice Tryz.underlying36 (hval 0 36 v0 rfl rfl)
  obtain ⟨a1, l1, c1, rfl⟩ := okWide_slice Tryz.underlying23 (hval 1 23 v1 rfl rfl)
  simp only [List.append_nil] at hW'
  have m0 := (slice_cells Tryz.underlying36 (by kernel_rfl) h0).1
  have m1 := (slice_cells Tryz.underlying23 (by kernel_rfl) h1).1
  obtain ⟨L, rfl, hrow, hlt⟩ := rowN_of Tryz.underlying36 Tryz.underlying37 (by kernel_rfl) (V := 65536) (fun z hz => by
    have : 0 ≤ z ∧ z ≤ 65535 := by simpa [Lit.wf, IntKind.min, IntKind.max, IntKind.signed, IntKind.bits] using hz
    omega) h0
  obtain ⟨B, rfl, hrowB⟩ := rowB_of Tryz.underlying23 Tryz.underlying4 (by kernel_rfl) h1
  rw [MakeChecks.laidMetH_plain _ _ _ (by kernel_rfl)] at hL
  have hE := envL_of hL (List.mem_iff_getElem?.2 ⟨3, rfl⟩) (List.mem_iff_getElem?.2 ⟨4, rfl⟩) (List.mem_iff_getElem?.2 ⟨11, rfl⟩) (List.mem_iff_getElem?.2 ⟨6, rfl⟩) (List.mem_iff_getElem?.2 ⟨8, rfl⟩)
  unfold maxLen at m0 m1
  refine (numberParts_walk 1 (Nat.le_refl _) (itoa_said (by decide) divW_one) a0 c0 L a1 c1 B W hE hrow hrowB hlt (by omega) (by omega)).mono fun e W' ⟨he, hB⟩ => ?_
  subst he
  exact ⟨_, rfl, post_grown (pa := p0 ++ p1) (pv := []) hW' (fun _ _ _ => trodAll_mk1 (shut_bool Tryz.underlying4 _))
    (fun sp hsp => trodAll_mk2 (slice_again Tryz.underlying36 (by kernel_rfl) (flat_int Tryz.underlying37) hB h0 ⟨_, _, _, rfl⟩ sp (fun q hq => hsp q (by simp [hq])))
      (slice_again Tryz.underlying23 (by kernel_rfl) (flat_bool Tryz.underlying4) hB h1 ⟨_, _, _, rfl⟩ sp (fun q hq => hsp q (by simp [hq]))))
    (fun _ _ => rfl) (by simp) hB (ok_one (by kernel_rfl) rfl (okWide_bool_mk Tryz.underlying4 _))⟩

set_option maxHeartbeats 8000000 in
theorem numberParts_closed : joinedFacts Tryz.prog 5 Tryz.f5 Rows.fnMavenNumberPartsSpec Rows.fnMavenNumberPartsRow = true := by
  unfold joinedFacts
  simp only [Bool.and_eq_true]
  repeat' apply And.intro
  all_goals as_aux_lemma => kernel_rfl
theorem numberParts_row : Rows.FnMavenNumberPartsSaid :=
  OpenClaim.holds_of_wide 5 Tryz.f5 rfl rfl rfl rfl rfl rfl rfl ⟨rfl, rfl, rfl, rfl, rfl⟩ rfl rfl rfl rfl rfl (by as_aux_lemma => kernel_rfl) Tryz.func5 numberParts_closed
    (of_decide_eq_true (by as_aux_lemma => kernel_rfl)) (by as_aux_lemma => (unfold Func.isWrapper; first | (rw [if_pos (by decide +kernel)]; kernel_rfl) | (rw [if_neg (by decide +kernel)]; exact ⟨rfl, rfl⟩)))
    (fun os started H enc _ => numberParts_lifted os started H enc)
theorem numberParts_holds : Rows.FnMavenNumberPartsCardSaid :=
  Claim7.holds_tied_plain_at .later [] [.data, .data, .data, .sentinel, .sentinel, .sentinel, .data, .data, .data, .data, .data, .sentinel, .pinned, .pinned] true (true, "77db013054401e83eac9469112a533d38a195273b3da6e98e7fcef9eceb5cca1") true numberParts_row (fun _ h => by cases h) (by as_aux_lemma => kernel_rfl) (fun _ h => by cases h) fnMavenNumberParts_row_tie rfl ⟨rfl, rfl⟩ (by as_aux_lemma => kernel_rfl) rfl
    (fun f fn hf hfn => by
      obtain rfl : f = 5 := Option.some.inj ((show Tryz.prog.funcNamed "pub-primogeniture/laws.FnMavenNumberParts" = some 5 by as_aux_lemma => kernel_rfl).symm.trans hf) |>.symm
      obtain rfl : fn = Tryz.f5 := (Option.some.inj (Tryz.func5.symm.trans hfn)).symm
      exact ⟨by as_aux_lemma => kernel_rfl, fun j t ht => by
        rw [Tryz.params5] at ht
        have hm : t ∈ [36, 23] := by simpa using Array.mem_of_getElem? ht
        have hall : ([36, 23].all fun u => !Tryz.prog.wantsStandIn u) = true := by kernel_rfl
        exact (show Tryz.prog.wantsStandIn t = false by simpa using List.all_eq_true.1 hall t hm)⟩)
    (by as_aux_lemma => kernel_rfl)
#print axioms numberParts_holds
end Go.Proofs.YtcehboopgjpfcaaGreatDoor
