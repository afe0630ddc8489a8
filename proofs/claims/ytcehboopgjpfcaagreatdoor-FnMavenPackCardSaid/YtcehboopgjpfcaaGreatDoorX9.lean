/-
  FnMavenPack returns true for every input and leaves its arguments as they were: a service pack stands behind its version and ahead of what has a number more.
  Conditions: the listed package-level variables hold at the beginning what the program's text lays (the card ties them; unicode.CaseRanges and unicode/utf8.first by the form's constants).
-/
import Derived.Test.YtcehboopgjpfcaaGreatDoorW9
import Derived.Test.YtcehboopgjpfcaaGreatDoorR4
import Derived.Test.YtcehboopgjpfcaaGreatDoorRA
import Derived.Test.YtcehboopgjpfcaaGreatDoorTie
import Derived.Test.YtcehboopgjpfcaaGreatDoorCards
import Derived.ProofKit
import Derived.OpenShut
import Derived.LaidMore
import Derived.Lay
import Derived.SevenTiedAt
import Derived.Stop.Joined
namespace Go.Proofs.YtcehboopgjpfcaaGreatDoor
open Go.ChangeShapes Go.WideShapes Go.ChangeAt Go.RowKit Go.Proofs.Tz
open Go.ChangeMaps (open_string shut_string)

theorem own : ownKnob Tryz.prog.godebug = none := by kernel_rfl

set_option maxRecDepth 100000 in
theorem pack_lifted (os : Os) (started : os.Started) (H : Type) (enc : TypeId × Value → H) :
    ReturnsInHanded {} Tryz.checked os 9 .any (fun w args => (Rows.fnMavenPackSpec.pre enc Tryz.prog Tryz.f9 Rows.fnMavenPackRow.domain false w args ∧ laidMetH Tryz.prog Rows.fnMavenPackRow.laid w) ∧ sizedMet enc Tryz.prog Tryz.f9 (OpenSpec.ofChange Rows.fnMavenPackSpec) false w args)
      (Rows.fnMavenPackSpec.post enc Tryz.prog Tryz.f9 false true false false) := by
  refine returnsInHanded_of_change_and (C := Tryz.checked) (X := fun w _ => laidMetH Tryz.prog Rows.fnMavenPackRow.laid w) (fun _ _ _ hh h => h.of_heap hh) own started (by kernel_rfl) Tryz.func9
    (ChangeSpec.witness_shaped (enc := enc) (C := Tryz.checked) (os := os) (X := fun w _ => laidMetH Tryz.prog Rows.fnMavenPackRow.laid w) false (World.laidAll Tryz.prog os Rows.fnMavenPackRow.laid) #[.string ⟨#[]⟩, .bool false, .int .u8 0] 8 (World.laidAll_os _ _ _)
      (World.shaped_of_ZipB (by kernel_rfl) (by kernel_rfl)) (by kernel_rfl) (by kernel_rfl) (by kernel_rfl)
      (by rw [MakeChecks.laidMetH_plain _ _ _ (by kernel_rfl)]; exact laidMet_laidAll _ (by kernel_rfl) (by kernel_rfl))) ?_
  intro W base args ds gs before hval0 hW _ _ hL _
  have hval : ∀ (j : Nat) t v, Tryz.f9.params[j]? = some t → args[j]? = some v → Value.okWide Tryz.prog W .any base t v := hval0
  have hW' := hW
  obtain ⟨p, q, hA0, hV, rfl, _, _⟩ := hW
  have hA : DataW.TrodAll enc Tryz.prog W 0 (fun _ => true) true Tryz.f9.params.toList args.toList ds p := hA0
  rw [Tryz.params9] at hA hval
  obtain ⟨v0, v1, v2, d0, d1, d2, p0, p1, p2, rfl, rfl, rfl, h0, h1, h2⟩ := trodAll_three hA
  obtain ⟨rfl, rfl⟩ := trodVars_none hV
  obtain ⟨s0, rfl, rfl, rfl, z0⟩ := open_string Tryz.underlying9 (hval 0 9 v0 rfl rfl) h0
  have l0 : s0.data.toList.length = s0.size := by simp
  obtain ⟨x1, rfl, rfl, rfl⟩ := open_bool Tryz.underlying4 (hval 1 4 v1 rfl rfl) h1
  obtain ⟨x2, rfl, rfl, rfl, wf2⟩ := open_int Tryz.underlying5 (hval 2 5 v2 rfl rfl) h2
  have z2 : 0 ≤ x2 ∧ x2 ≤ 255 := by simpa [Lit.wf, IntKind.min, IntKind.max, IntKind.signed, IntKind.bits] using wf2
  obtain ⟨n2, rfl⟩ : ∃ r : Nat, x2 = r := ⟨x2.toNat, by omega⟩
  simp only [List.append_nil] at hW'
  rw [MakeChecks.laidMetH_plain _ _ _ (by kernel_rfl)] at hL
  have hE := envL_of hL (List.mem_iff_getElem?.2 ⟨3, rfl⟩) (List.mem_iff_getElem?.2 ⟨4, rfl⟩) (List.mem_iff_getElem?.2 ⟨11, rfl⟩) (List.mem_iff_getElem?.2 ⟨6, rfl⟩) (List.mem_iff_getElem?.2 ⟨8, rfl⟩)
  have hKw := kwAt_of hL (List.mem_iff_getElem?.2 ⟨12, rfl⟩)
  unfold maxLen at z0
  have hwalk := pack_walk 1 (Nat.le_refl _) (itoa_said (by decide) divW_one) s0.data.toList x1 n2 (by omega) W hE hKw (by omega)
  simp only [str_of] at hwalk
  refine hwalk.mono fun e W' ⟨he, hB⟩ => ?_
  subst he
  exact ⟨_, rfl, post_grown (pa := [] ++ ([] ++ [])) (pv := []) hW' (fun _ _ _ => trodAll_mk1 (shut_bool Tryz.underlying4 _))
    (fun sp hsp => trodAll_mk3 (shut_string Tryz.underlying9 z0) (shut_bool Tryz.underlying4 x1) (shut_int Tryz.underlying5 wf2))
    (fun _ _ => rfl) (by simp) hB (ok_one (by kernel_rfl) rfl (okWide_bool_mk Tryz.underlying4 _))⟩

set_option maxHeartbeats 8000000 in
theorem pack_closed : joinedFacts Tryz.prog 9 Tryz.f9 Rows.fnMavenPackSpec Rows.fnMavenPackRow = true := by
  unfold joinedFacts
  simp only [Bool.and_eq_true]
  repeat' apply And.intro
  all_goals as_aux_lemma => kernel_rfl
theorem pack_row : Rows.FnMavenPackSaid :=
  OpenClaim.holds_of_wide 9 Tryz.f9 rfl rfl rfl rfl rfl rfl rfl ⟨rfl, rfl, rfl, rfl, rfl⟩ rfl rfl rfl rfl rfl (by as_aux_lemma => kernel_rfl) Tryz.func9 pack_closed
    (of_decide_eq_true (by as_aux_lemma => kernel_rfl)) (by as_aux_lemma => (unfold Func.isWrapper; first | (rw [if_pos (by decide +kernel)]; kernel_rfl) | (rw [if_neg (by decide +kernel)]; exact ⟨rfl, rfl⟩)))
    (fun os started H enc _ => pack_lifted os started H enc)
theorem pack_holds : Rows.FnMavenPackCardSaid :=
  Claim7.holds_tied_plain_at .later [] [.data, .data, .data, .sentinel, .sentinel, .sentinel, .data, .data, .data, .data, .data, .sentinel, .data, .pinned, .pinned] true (true, "77db013054401e83eac9469112a533d38a195273b3da6e98e7fcef9eceb5cca1") true pack_row (fun _ h => by cases h) (by as_aux_lemma => kernel_rfl) (fun _ h => by cases h) fnMavenPack_row_tie rfl ⟨rfl, rfl⟩ (by as_aux_lemma => kernel_rfl) rfl
    (fun f fn hf hfn => by
      obtain rfl : f = 9 := Option.some.inj ((show Tryz.prog.funcNamed "pub-primogeniture/laws.FnMavenPack" = some 9 by as_aux_lemma => kernel_rfl).symm.trans hf) |>.symm
      obtain rfl : fn = Tryz.f9 := (Option.some.inj (Tryz.func9.symm.trans hfn)).symm
      exact ⟨by as_aux_lemma => kernel_rfl, fun j t ht => by
        rw [Tryz.params9] at ht
        have hm : t ∈ [9, 4, 5] := by simpa using Array.mem_of_getElem? ht
        have hall : ([9, 4, 5].all fun u => !Tryz.prog.wantsStandIn u) = true := by as_aux_lemma => kernel_rfl
        exact (show Tryz.prog.wantsStandIn t = false by simpa using List.all_eq_true.1 hall t hm)⟩)
    (by as_aux_lemma => kernel_rfl)
#print axioms pack_holds
end Go.Proofs.YtcehboopgjpfcaaGreatDoor
