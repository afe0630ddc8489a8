/-
  FnMavenTails returns true for every input and leaves its arguments as they were: zeros and the names of a release at the end of a version change none of its tokens.
  Conditions: the listed package-level variables hold at the beginning what the program's text lays (the card ties them; unicode.CaseRanges and unicode/utf8.first by the form's constants).
-/
import Derived.Test.YtcehboopgjpfcaaGreatDoorW13
import Derived.Test.YtcehboopgjpfcaaGreatDoorR4
import Derived.Test.YtcehboopgjpfcaaGreatDoorU4
import Derived.Test.YtcehboopgjpfcaaGreatDoorRA
import Derived.Test.YtcehboopgjpfcaaGreatDoorTie
import Derived.Test.YtcehboopgjpfcaaGreatDoorCards
import Derived.ProofKit
import Derived.OpenShut
import Derived.LaidMore
import Derived.Lay
import Derived.SevenTiedAt
import Derived.Stop.Joined
namespace Go.Proofs.YtcehboopgjpfcaaGreatDoor
open Go.ChangeShapes Go.WideShapes Go.ChangeAt Go.RowKit Go.Proofs.Tz
open Go.ChangeMaps (open_string shut_string)

theorem own : ownKnob Tryz.prog.godebug = none := by kernel_rfl

set_option maxRecDepth 100000 in
theorem tails_lifted (os : Os) (started : os.Started) (H : Type) (enc : TypeId × Value → H) :
    ReturnsInHanded {} Tryz.checked os 13 .any (fun w args => (Rows.fnMavenTailsSpec.pre enc Tryz.prog Tryz.f13 Rows.fnMavenTailsRow.domain false w args ∧ laidMetH Tryz.prog Rows.fnMavenTailsRow.laid w) ∧ sizedMet enc Tryz.prog Tryz.f13 (OpenSpec.ofChange Rows.fnMavenTailsSpec) false w args)
      (Rows.fnMavenTailsSpec.post enc Tryz.prog Tryz.f13 false true false false) := by
  refine returnsInHanded_of_change_and (C := Tryz.checked) (X := fun w _ => laidMetH Tryz.prog Rows.fnMavenTailsRow.laid w) (fun _ _ _ hh h => h.of_heap hh) own started (by kernel_rfl) Tryz.func13
    (ChangeSpec.witness_shaped (enc := enc) (C := Tryz.checked) (os := os) (X := fun w _ => laidMetH Tryz.prog Rows.fnMavenTailsRow.laid w) false (World.laidAll Tryz.prog os Rows.fnMavenTailsRow.laid) #[.string ⟨#[]⟩, .slice none 0 0] 8 (World.laidAll_os _ _ _)
      (World.shaped_of_ZipB (by kernel_rfl) (by kernel_rfl)) (by kernel_rfl) (by kernel_rfl) (by kernel_rfl)
      (by rw [MakeChecks.laidMetH_plain _ _ _ (by kernel_rfl)]; exact laidMet_laidAll _ (by kernel_rfl) (by kernel_rfl))) ?_
  intro W base args ds gs before hval0 hW _ _ hL _
  have hval : ∀ (j : Nat) t v, Tryz.f13.params[j]? = some t → args[j]? = some v → Value.okWide Tryz.prog W .any base t v := hval0
  have hW' := hW
  obtain ⟨p, q, hA0, hV, rfl, _, _⟩ := hW
  have hA : DataW.TrodAll enc Tryz.prog W 0 (fun _ => true) true Tryz.f13.params.toList args.toList ds p := hA0
  rw [Tryz.params13] at hA hval
  obtain ⟨v0, v1, d0, d1, p0, p1, rfl, rfl, rfl, h0, h1⟩ := trodAll_two hA
  obtain ⟨rfl, rfl⟩ := trodVars_none hV
  obtain ⟨s0, rfl, rfl, rfl, z0⟩ := open_string Tryz.underlying9 (hval 0 9 v0 rfl rfl) h0
  have l0 : s0.data.toList.length = s0.size := by simp
  obtain ⟨a1, n1, c1, rfl⟩ := okWide_slice Tryz.underlying32 (hval 1 32 v1 rfl rfl)
  have z1 := (slice_cells Tryz.underlying32 (by kernel_rfl) h1).1
  obtain ⟨L1, rfl, r1, lt1⟩ := rowN_of Tryz.underlying32 Tryz.underlying5 (by kernel_rfl) (V := 256) (fun z hz => by
    have : 0 ≤ z ∧ z ≤ 255 := by simpa [Lit.wf, IntKind.min, IntKind.max, IntKind.signed, IntKind.bits] using hz
    omega) h1
  simp only [List.append_nil, List.nil_append] at hW'
  rw [MakeChecks.laidMetH_plain _ _ _ (by kernel_rfl)] at hL
  have hE := envL_of hL (List.mem_iff_getElem?.2 ⟨3, rfl⟩) (List.mem_iff_getElem?.2 ⟨4, rfl⟩) (List.mem_iff_getElem?.2 ⟨11, rfl⟩) (List.mem_iff_getElem?.2 ⟨6, rfl⟩) (List.mem_iff_getElem?.2 ⟨8, rfl⟩) (List.mem_iff_getElem?.2 ⟨7, rfl⟩) (List.mem_iff_getElem?.2 ⟨9, rfl⟩) (List.mem_iff_getElem?.2 ⟨10, rfl⟩)
  have hKw := kwAt_of hL (List.mem_iff_getElem?.2 ⟨12, rfl⟩)
  unfold maxLen at z0 z1
  have hwalk := tails_walk 63 room_63 itoa_63 s0.data.toList a1 c1 L1 W hE hKw r1 lt1 (by omega) (by omega)
  simp only [str_of] at hwalk
  refine hwalk.mono fun e W' ⟨he, hB⟩ => ?_
  subst he
  exact ⟨_, rfl, post_grown (pa := [] ++ p1) (pv := []) hW' (fun _ _ _ => trodAll_mk1 (shut_bool Tryz.underlying4 _))
    (fun sp hsp => trodAll_mk2 (shut_string Tryz.underlying9 z0) (slice_again Tryz.underlying32 (by kernel_rfl) (flat_int Tryz.underlying5) hB h1 ⟨_, _, _, rfl⟩ sp (fun q hq => hsp q (by simp [hq]))))
    (fun _ _ => rfl) (by simp) hB (ok_one (by kernel_rfl) rfl (okWide_bool_mk Tryz.underlying4 _))⟩

set_option maxHeartbeats 8000000 in
theorem tails_closed : joinedFacts Tryz.prog 13 Tryz.f13 Rows.fnMavenTailsSpec Rows.fnMavenTailsRow = true := by
  unfold joinedFacts
  simp only [Bool.and_eq_true]
  repeat' apply And.intro
  all_goals as_aux_lemma => kernel_rfl
theorem tails_row : Rows.FnMavenTailsSaid :=
  OpenClaim.holds_of_wide 13 Tryz.f13 rfl rfl rfl rfl rfl rfl rfl ⟨rfl, rfl, rfl, rfl, rfl⟩ rfl rfl rfl rfl rfl (by as_aux_lemma => kernel_rfl) Tryz.func13 tails_closed
    (of_decide_eq_true (by as_aux_lemma => kernel_rfl)) (by as_aux_lemma => (unfold Func.isWrapper; first | (rw [if_pos (by decide +kernel)]; kernel_rfl) | (rw [if_neg (by decide +kernel)]; exact ⟨rfl, rfl⟩)))
    (fun os started H enc _ => tails_lifted os started H enc)
theorem tails_holds : Rows.FnMavenTailsCardSaid :=
  Claim7.holds_tied_plain_at .later [] [.data, .data, .data, .sentinel, .sentinel, .sentinel, .data, .data, .data, .data, .data, .sentinel, .data, .pinned, .pinned] true (true, "77db013054401e83eac9469112a533d38a195273b3da6e98e7fcef9eceb5cca1") true tails_row (fun _ h => by cases h) (by as_aux_lemma => kernel_rfl) (fun _ h => by cases h) fnMavenTails_row_tie rfl ⟨rfl, rfl⟩ (by as_aux_lemma => kernel_rfl) rfl
    (fun f fn hf hfn => by
      obtain rfl : f = 13 := Option.some.inj ((show Tryz.prog.funcNamed "pub-primogeniture/laws.FnMavenTails" = some 13 by as_aux_lemma => kernel_rfl).symm.trans hf) |>.symm
      obtain rfl : fn = Tryz.f13 := (Option.some.inj (Tryz.func13.symm.trans hfn)).symm
      exact ⟨by as_aux_lemma => kernel_rfl, fun j t ht => by
        rw [Tryz.params13] at ht
        have hm : t ∈ [9, 32] := by simpa using Array.mem_of_getElem? ht
        have hall : ([9, 32].all fun u => !Tryz.prog.wantsStandIn u) = true := by as_aux_lemma => kernel_rfl
        exact (show Tryz.prog.wantsStandIn t = false by simpa using List.all_eq_true.1 hall t hm)⟩)
    (by as_aux_lemma => kernel_rfl)
#print axioms tails_holds
end Go.Proofs.YtcehboopgjpfcaaGreatDoor
