/-
  FnMavenZeros returns true for every input and leaves its arguments as they were: zeros ahead of numbers do not count.
  Conditions: the listed package-level variables hold at the beginning what the program's text lays (the card ties them; unicode.CaseRanges and unicode/utf8.first by the form's constants).
-/
import Derived.Test.YtcehboopgjpfcaaGreatDoorW14
import Derived.Test.YtcehboopgjpfcaaGreatDoorR4
import Derived.Test.YtcehboopgjpfcaaGreatDoorRA
import Derived.Test.YtcehboopgjpfcaaGreatDoorTie
import Derived.Test.YtcehboopgjpfcaaGreatDoorCards
import Derived.ProofKit
import Derived.OpenShut
import Derived.LaidMore
import Derived.Lay
import Derived.SevenTiedAt
import Derived.Stop.Joined
namespace Go.Proofs.YtcehboopgjpfcaaGreatDoor
open Go.ChangeShapes Go.WideShapes Go.ChangeAt Go.RowKit Go.Proofs.Tz
open Go.ChangeMaps (open_string shut_string)

theorem own : ownKnob Tryz.prog.godebug = none := by kernel_rfl

set_option maxRecDepth 100000 in
theorem zeros_lifted (os : Os) (started : os.Started) (H : Type) (enc : TypeId × Value → H) :
    ReturnsInHanded {} Tryz.checked os 14 .any (fun w args => (Rows.fnMavenZerosSpec.pre enc Tryz.prog Tryz.f14 Rows.fnMavenZerosRow.domain false w args ∧ laidMetH Tryz.prog Rows.fnMavenZerosRow.laid w) ∧ sizedMet enc Tryz.prog Tryz.f14 (OpenSpec.ofChange Rows.fnMavenZerosSpec) false w args)
      (Rows.fnMavenZerosSpec.post enc Tryz.prog Tryz.f14 false true false false) := by
  refine returnsInHanded_of_change_and (C := Tryz.checked) (X := fun w _ => laidMetH Tryz.prog Rows.fnMavenZerosRow.laid w) (fun _ _ _ hh h => h.of_heap hh) own started (by kernel_rfl) Tryz.func14
    (ChangeSpec.witness_shaped (enc := enc) (C := Tryz.checked) (os := os) (X := fun w _ => laidMetH Tryz.prog Rows.fnMavenZerosRow.laid w) false (World.laidAll Tryz.prog os Rows.fnMavenZerosRow.laid) #[.slice none 0 0, .slice none 0 0, .slice none 0 0] 8 (World.laidAll_os _ _ _)
      (World.shaped_of_ZipB (by kernel_rfl) (by kernel_rfl)) (by kernel_rfl) (by kernel_rfl) (by kernel_rfl)
      (by rw [MakeChecks.laidMetH_plain _ _ _ (by kernel_rfl)]; exact laidMet_laidAll _ (by kernel_rfl) (by kernel_rfl))) ?_
  intro W base args ds gs before hval0 hW _ _ hL _
  have hval : ∀ (j : Nat) t v, Tryz.f14.params[j]? = some t → args[j]? = some v → Value.okWide Tryz.prog W .any base t v := hval0
  have hW' := hW
  obtain ⟨p, q, hA0, hV, rfl, _, _⟩ := hW
  have hA : DataW.TrodAll enc Tryz.prog W 0 (fun _ => true) true Tryz.f14.params.toList args.toList ds p := hA0
  rw [Tryz.params14] at hA hval
  obtain ⟨v0, v1, v2, d0, d1, d2, p0, p1, p2, rfl, rfl, rfl, h0, h1, h2⟩ := trodAll_three hA
  obtain ⟨rfl, rfl⟩ := trodVars_none hV
  obtain ⟨a0, n0, c0, rfl⟩ := okWide_slice Tryz.underlying36 (hval 0 36 v0 rfl rfl)
  have z0 := (slice_cells Tryz.underlying36 (by kernel_rfl) h0).1
  obtain ⟨L0, rfl, r0, lt0⟩ := rowN_of Tryz.underlying36 Tryz.underlying37 (by kernel_rfl) (V := 65536) (fun z hz => by
    have : 0 ≤ z ∧ z ≤ 65535 := by simpa [Lit.wf, IntKind.min, IntKind.max, IntKind.signed, IntKind.bits] using hz
    omega) h0
  obtain ⟨a1, n1, c1, rfl⟩ := okWide_slice Tryz.underlying32 (hval 1 32 v1 rfl rfl)
  have z1 := (slice_cells Tryz.underlying32 (by kernel_rfl) h1).1
  obtain ⟨L1, rfl, r1, lt1⟩ := rowN_of Tryz.underlying32 Tryz.underlying5 (by kernel_rfl) (V := 256) (fun z hz => by
    have : 0 ≤ z ∧ z ≤ 255 := by simpa [Lit.wf, IntKind.min, IntKind.max, IntKind.signed, IntKind.bits] using hz
    omega) h1
  obtain ⟨a2, n2, c2, rfl⟩ := okWide_slice Tryz.underlying23 (hval 2 23 v2 rfl rfl)
  have z2 := (slice_cells Tryz.underlying23 (by kernel_rfl) h2).1
  obtain ⟨L2, rfl, r2⟩ := rowB_of Tryz.underlying23 Tryz.underlying4 (by kernel_rfl) h2
  simp only [List.append_nil, List.nil_append] at hW'
  rw [MakeChecks.laidMetH_plain _ _ _ (by kernel_rfl)] at hL
  have hE := envL_of hL (List.mem_iff_getElem?.2 ⟨3, rfl⟩) (List.mem_iff_getElem?.2 ⟨4, rfl⟩) (List.mem_iff_getElem?.2 ⟨11, rfl⟩) (List.mem_iff_getElem?.2 ⟨6, rfl⟩) (List.mem_iff_getElem?.2 ⟨8, rfl⟩)
  have hKw := kwAt_of hL (List.mem_iff_getElem?.2 ⟨12, rfl⟩)
  unfold maxLen at z0 z1 z2
  have hwalk := zeros_walk 1 (Nat.le_refl _) (itoa_said (by decide) divW_one) a0 c0 L0 a1 c1 L1 a2 c2 L2 W hE hKw r0 lt0 r1 lt1 r2 (by omega) (by omega) (by omega)
  refine hwalk.mono fun e W' ⟨he, hB⟩ => ?_
  subst he
  exact ⟨_, rfl, post_grown (pa := p0 ++ (p1 ++ p2)) (pv := []) hW' (fun _ _ _ => trodAll_mk1 (shut_bool Tryz.underlying4 _))
    (fun sp hsp => trodAll_mk3 (slice_again Tryz.underlying36 (by kernel_rfl) (flat_int Tryz.underlying37) hB h0 ⟨_, _, _, rfl⟩ sp (fun q hq => hsp q (by simp [hq]))) (slice_again Tryz.underlying32 (by kernel_rfl) (flat_int Tryz.underlying5) hB h1 ⟨_, _, _, rfl⟩ sp (fun q hq => hsp q (by simp [hq]))) (slice_again Tryz.underlying23 (by kernel_rfl) (flat_bool Tryz.underlying4) hB h2 ⟨_, _, _, rfl⟩ sp (fun q hq => hsp q (by simp [hq]))))
    (fun _ _ => rfl) (by simp) hB (ok_one (by kernel_rfl) rfl (okWide_bool_mk Tryz.underlying4 _))⟩

set_option maxHeartbeats 8000000 in
theorem zeros_closed : joinedFacts Tryz.prog 14 Tryz.f14 Rows.fnMavenZerosSpec Rows.fnMavenZerosRow = true := by
  unfold joinedFacts
  simp only [Bool.and_eq_true]
  repeat' apply And.intro
  all_goals as_aux_lemma => kernel_rfl
theorem zeros_row : Rows.FnMavenZerosSaid :=
  OpenClaim.holds_of_wide 14 Tryz.f14 rfl rfl rfl rfl rfl rfl rfl ⟨rfl, rfl, rfl, rfl, rfl⟩ rfl rfl rfl rfl rfl (by as_aux_lemma => kernel_rfl) Tryz.func14 zeros_closed
    (of_decide_eq_true (by as_aux_lemma => kernel_rfl)) (by as_aux_lemma => (unfold Func.isWrapper; first | (rw [if_pos (by decide +kernel)]; kernel_rfl) | (rw [if_neg (by decide +kernel)]; exact ⟨rfl, rfl⟩)))
    (fun os started H enc _ => zeros_lifted os started H enc)
theorem zeros_holds : Rows.FnMavenZerosCardSaid :=
  Claim7.holds_tied_plain_at .later [] [.data, .data, .data, .sentinel, .sentinel, .sentinel, .data, .data, .data, .data, .data, .sentinel, .data, .pinned, .pinned] true (true, "77db013054401e83eac9469112a533d38a195273b3da6e98e7fcef9eceb5cca1") true zeros_row (fun _ h => by cases h) (by as_aux_lemma => kernel_rfl) (fun _ h => by cases h) fnMavenZeros_row_tie rfl ⟨rfl, rfl⟩ (by as_aux_lemma => kernel_rfl) rfl
    (fun f fn hf hfn => by
      obtain rfl : f = 14 := Option.some.inj ((show Tryz.prog.funcNamed "pub-primogeniture/laws.FnMavenZeros" = some 14 by as_aux_lemma => kernel_rfl).symm.trans hf) |>.symm
      obtain rfl : fn = Tryz.f14 := (Option.some.inj (Tryz.func14.symm.trans hfn)).symm
      exact ⟨by as_aux_lemma => kernel_rfl, fun j t ht => by
        rw [Tryz.params14] at ht
        have hm : t ∈ [36, 32, 23] := by simpa using Array.mem_of_getElem? ht
        have hall : ([36, 32, 23].all fun u => !Tryz.prog.wantsStandIn u) = true := by as_aux_lemma => kernel_rfl
        exact (show Tryz.prog.wantsStandIn t = false by simpa using List.all_eq_true.1 hall t hm)⟩)
    (by as_aux_lemma => kernel_rfl)
#print axioms zeros_holds
end Go.Proofs.YtcehboopgjpfcaaGreatDoor
