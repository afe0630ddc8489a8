/- Plain: known tokens, place by place; numbers with zeros ahead; no Go. -/
import Derived.Test.YtcehboopgjpfcaaGreatDoorV2
namespace Go.Proofs.Mv
theorem known_iff (l : List Tok) : known l = true ↔ l ≠ [] ∧ ∀ i t, l[i]? = some t → tknown t = true ∧ (t.p = [] ↔ i = 0) := by
  cases l with
  | nil => simp [known]
  | cons x xs =>
    unfold known
    simp only [Bool.and_eq_true, decide_eq_true_eq, List.all_eq_true]
    constructor
    · rintro ⟨⟨h1, h2⟩, h3⟩
      refine ⟨by simp, fun i t ht => ?_⟩
      cases i with
      | zero =>
        simp only [List.getElem?_cons_zero, Option.some.injEq] at ht
        subst ht
        exact ⟨h1, by simp [h2]⟩
      | succ i =>
        simp only [List.getElem?_cons_succ] at ht
        have := h3 t (List.mem_of_getElem? ht)
        exact ⟨this.1, by simp [this.2]⟩
    · rintro ⟨_, h⟩
      have h0 := h 0 x rfl
      refine ⟨⟨h0.1, h0.2.2 rfl⟩, fun t ht => ?_⟩
      obtain ⟨i, hi⟩ := List.mem_iff_getElem?.1 ht
      have := h (i + 1) t (by simpa using hi)
      exact ⟨this.1, fun e => by have := this.2.1 e; omega⟩
end Go.Proofs.Mv
