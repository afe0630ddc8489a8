/-
  FnMavenGlued returns true for every input and leaves its arguments as they were: a hyphen where a digit and a letter meet may be left out.
  Conditions: the listed package-level variables hold at the beginning what the program's text lays (the card ties them; unicode.CaseRanges and unicode/utf8.first by the form's constants).
-/
import Derived.Test.YtcehboopgjpfcaaGreatDoorW3
import Derived.Test.YtcehboopgjpfcaaGreatDoorR5
import Derived.Test.YtcehboopgjpfcaaGreatDoorU4
import Derived.Test.YtcehboopgjpfcaaGreatDoorRA
import Derived.Test.YtcehboopgjpfcaaGreatDoorTie
import Derived.Test.YtcehboopgjpfcaaGreatDoorCards
import Derived.ProofKit
import Derived.OpenShut
import Derived.LaidMore
import Derived.Lay
import Derived.SevenTiedAt
import Derived.Stop.Joined
namespace Go.Proofs.YtcehboopgjpfcaaGreatDoor
open Go.ChangeShapes Go.WideShapes Go.ChangeAt Go.RowKit Go.Proofs.Tz
open Go.ChangeMaps (open_string shut_string)

theorem own : ownKnob Tryz.prog.godebug = none := by kernel_rfl

set_option maxRecDepth 100000 in
theorem glued_lifted (os : Os) (started : os.Started) (H : Type) (enc : TypeId × Value → H) :
    ReturnsInHanded {} Tryz.checked os 3 .any (fun w args => (Rows.fnMavenGluedSpec.pre enc Tryz.prog Tryz.f3 Rows.fnMavenGluedRow.domain false w args ∧ laidMetH Tryz.prog Rows.fnMavenGluedRow.laid w) ∧ sizedMet enc Tryz.prog Tryz.f3 (OpenSpec.ofChange Rows.fnMavenGluedSpec) false w args)
      (Rows.fnMavenGluedSpec.post enc Tryz.prog Tryz.f3 false true false false) := by
  refine returnsInHanded_of_change_and (C := Tryz.checked) (X := fun w _ => laidMetH Tryz.prog Rows.fnMavenGluedRow.laid w) (fun _ _ _ hh h => h.of_heap hh) own started (by kernel_rfl) Tryz.func3
    (ChangeSpec.witness_shaped (enc := enc) (C := Tryz.checked) (os := os) (X := fun w _ => laidMetH Tryz.prog Rows.fnMavenGluedRow.laid w) false (World.laidAll Tryz.prog os Rows.fnMavenGluedRow.laid) #[.slice none 0 0, .slice none 0 0] 8 (World.laidAll_os _ _ _)
      (World.shaped_of_ZipB (by kernel_rfl) (by kernel_rfl)) (by kernel_rfl) (by kernel_rfl) (by kernel_rfl)
      (by rw [MakeChecks.laidMetH_plain _ _ _ (by kernel_rfl)]; exact laidMet_laidAll _ (by kernel_rfl) (by kernel_rfl))) ?_
  intro W base args ds gs before hval0 hW _ _ hL _
  have hval : ∀ (j : Nat) t v, Tryz.f3.params[j]? = some t → args[j]? = some v → Value.okWide Tryz.prog W .any base t v := hval0
  have hW' := hW
  obtain ⟨p, q, hA0, hV, rfl, _, _⟩ := hW
  have hA : DataW.TrodAll enc Tryz.prog W 0 (fun _ => true) true Tryz.f3.params.toList args.toList ds p := hA0
  rw [Tryz.params3] at hA hval
  obtain ⟨v0, v1, d0, d1, p0, p1, rfl, rfl, rfl, h0, h1⟩ := trodAll_two hA
  obtain ⟨rfl, rfl⟩ := trodVars_none hV
  obtain ⟨a0, n0, c0, rfl⟩ := okWide_slice Tryz.underlying22 (hval 0 22 v0 rfl rfl)
  have z0 := (slice_cells Tryz.underlying22 (by kernel_rfl) h0).1
  obtain ⟨L0, rfl, r0⟩ := rowS_of Tryz.underlying22 Tryz.underlying9 (by kernel_rfl) h0
  obtain ⟨a1, n1, c1, rfl⟩ := okWide_slice Tryz.underlying23 (hval 1 23 v1 rfl rfl)
  have z1 := (slice_cells Tryz.underlying23 (by kernel_rfl) h1).1
  obtain ⟨L1, rfl, r1⟩ := rowB_of Tryz.underlying23 Tryz.underlying4 (by kernel_rfl) h1
  simp only [List.append_nil] at hW'
  rw [MakeChecks.laidMetH_plain _ _ _ (by kernel_rfl)] at hL
  have hE := envL_of hL (List.mem_iff_getElem?.2 ⟨3, rfl⟩) (List.mem_iff_getElem?.2 ⟨4, rfl⟩) (List.mem_iff_getElem?.2 ⟨11, rfl⟩) (List.mem_iff_getElem?.2 ⟨6, rfl⟩) (List.mem_iff_getElem?.2 ⟨8, rfl⟩) (List.mem_iff_getElem?.2 ⟨7, rfl⟩) (List.mem_iff_getElem?.2 ⟨9, rfl⟩) (List.mem_iff_getElem?.2 ⟨10, rfl⟩)
  unfold maxLen at z0 z1
  have hwalk := glued_walk 63 room_63 itoa_63 a0 c0 L0 a1 c1 L1 W hE r0 r1 (by omega) (by omega)
  refine hwalk.mono fun e W' ⟨he, hB⟩ => ?_
  subst he
  exact ⟨_, rfl, post_grown (pa := p0 ++ p1) (pv := []) hW' (fun _ _ _ => trodAll_mk1 (shut_bool Tryz.underlying4 _))
    (fun sp hsp => trodAll_mk2 (slice_again Tryz.underlying22 (by kernel_rfl) (flat_string Tryz.underlying9) hB h0 ⟨_, _, _, rfl⟩ sp (fun q hq => hsp q (by simp [hq]))) (slice_again Tryz.underlying23 (by kernel_rfl) (flat_bool Tryz.underlying4) hB h1 ⟨_, _, _, rfl⟩ sp (fun q hq => hsp q (by simp [hq]))))
    (fun _ _ => rfl) (by simp) hB (ok_one (by kernel_rfl) rfl (okWide_bool_mk Tryz.underlying4 _))⟩

set_option maxHeartbeats 8000000 in
theorem glued_closed : joinedFacts Tryz.prog 3 Tryz.f3 Rows.fnMavenGluedSpec Rows.fnMavenGluedRow = true := by
  unfold joinedFacts
  simp only [Bool.and_eq_true]
  repeat' apply And.intro
  all_goals as_aux_lemma => kernel_rfl
theorem glued_row : Rows.FnMavenGluedSaid :=
  OpenClaim.holds_of_wide 3 Tryz.f3 rfl rfl rfl rfl rfl rfl rfl ⟨rfl, rfl, rfl, rfl, rfl⟩ rfl rfl rfl rfl rfl (by as_aux_lemma => kernel_rfl) Tryz.func3 glued_closed
    (of_decide_eq_true (by as_aux_lemma => kernel_rfl)) (by as_aux_lemma => (unfold Func.isWrapper; first | (rw [if_pos (by decide +kernel)]; kernel_rfl) | (rw [if_neg (by decide +kernel)]; exact ⟨rfl, rfl⟩)))
    (fun os started H enc _ => glued_lifted os started H enc)
theorem glued_holds : Rows.FnMavenGluedCardSaid :=
  Claim7.holds_tied_plain_at .later [] [.data, .data, .data, .sentinel, .sentinel, .sentinel, .data, .data, .data, .data, .data, .sentinel, .pinned, .pinned] true (true, "77db013054401e83eac9469112a533d38a195273b3da6e98e7fcef9eceb5cca1") true glued_row (fun _ h => by cases h) (by as_aux_lemma => kernel_rfl) (fun _ h => by cases h) fnMavenGlued_row_tie rfl ⟨rfl, rfl⟩ (by as_aux_lemma => kernel_rfl) rfl
    (fun f fn hf hfn => by
      obtain rfl : f = 3 := Option.some.inj ((show Tryz.prog.funcNamed "pub-primogeniture/laws.FnMavenGlued" = some 3 by as_aux_lemma => kernel_rfl).symm.trans hf) |>.symm
      obtain rfl : fn = Tryz.f3 := (Option.some.inj (Tryz.func3.symm.trans hfn)).symm
      exact ⟨by as_aux_lemma => kernel_rfl, fun j t ht => by
        rw [Tryz.params3] at ht
        have hm : t ∈ [22, 23] := by simpa using Array.mem_of_getElem? ht
        have hall : ([22, 23].all fun u => !Tryz.prog.wantsStandIn u) = true := by as_aux_lemma => kernel_rfl
        exact (show Tryz.prog.wantsStandIn t = false by simpa using List.all_eq_true.1 hall t hm)⟩)
    (by as_aux_lemma => kernel_rfl)
#print axioms glued_holds
end Go.Proofs.YtcehboopgjpfcaaGreatDoor
