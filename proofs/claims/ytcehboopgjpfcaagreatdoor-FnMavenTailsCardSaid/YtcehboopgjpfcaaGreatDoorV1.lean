/- Every value of a parsed text's tokens is a number's digits, or has no digit and no hyphen. -/
import Derived.Test.YtcehboopgjpfcaaGreatDoorF3
namespace Go.Proofs.Tz
open Go.RowKit Mv

theorem strip_len : ∀ (s : Bs), (strip s).length ≤ s.length
  | [] => Nat.le_refl _
  | [_] => Nat.le_refl _
  | c :: d :: r => by
    unfold strip
    split
    · have := strip_len (d :: r)
      simp only [List.length_cons] at this ⊢; omega
    · exact Nat.le_refl _
theorem nv_vok {q : Bs} (hq : Piece q) (m : Bool) (hl : q.length ≤ 900000) : Vok (nv q m) := by
  rcases f_cases q m with ⟨h, _⟩ | ⟨h, _⟩ | ⟨_, _, h⟩
  · subst h
    exact ⟨.inl (by rw [nv, if_pos rfl]; decide), by rw [nv, if_pos rfl]; decide⟩
  · obtain ⟨h1, h2⟩ := (allDig_iff q).1 h
    rw [nv_dig h1 h2]
    refine ⟨.inl ?_, Nat.le_trans (strip_len q) (by omega)⟩
    rw [strip_dec q h1 h2]; exact allDig_dec _
  · rw [← h]
    exact ⟨f_ok hq m, by have := f_len q m; omega⟩
/-- A row of bytes of one sort, no mark among them. -/
def Homg (cur : Bs) : Prop := (∀ c ∈ cur, isMark c = false) ∧ ∃ b, ∀ c ∈ cur, isDig c = b
theorem homg_piece {cur : Bs} (h : Homg cur) : Piece cur := by
  obtain ⟨h1, b, h2⟩ := h
  by_cases h0 : cur = []
  · exact .inl h0
  · cases b
    · right; right
      intro c hc
      refine ⟨h2 c hc, fun e => ?_⟩
      have := h1 c hc
      rw [e] at this; revert this; decide
    · right; left
      exact (allDig_iff cur).2 ⟨h0, h2⟩
theorem getLastD_mem' {cur : Bs} (h : cur ≠ []) : cur.getLastD 0 ∈ cur := by
  rw [List.getLastD_eq_getLast?, List.getLast?_eq_some_getLast h]
  exact List.getLast_mem h
theorem tokL_piece : ∀ (r pre cur : Bs), Homg cur → ∀ t ∈ tokL pre cur r, ∃ q m, t.v = nv q m ∧ Piece q ∧ q.length ≤ cur.length + r.length
  | [], pre, cur, h, t, ht => by
    rw [tokL] at ht
    simp only [List.mem_singleton] at ht
    subst ht
    exact ⟨cur, false, rfl, homg_piece h, by simp⟩
  | c :: r, pre, cur, h, t, ht => by
    rw [tokL] at ht
    by_cases hm : isMark c = true
    · rw [if_pos hm] at ht
      rcases List.mem_cons.1 ht with rfl | ht
      · exact ⟨cur, false, rfl, homg_piece h, by simp⟩
      · obtain ⟨q, m, h1, h2, h3⟩ := tokL_piece r [c] [] ⟨fun _ hx => absurd hx (by simp), true, fun _ hx => absurd hx (by simp)⟩ t ht
        refine ⟨q, m, h1, h2, ?_⟩
        simp only [List.length_nil, List.length_cons] at h3 ⊢; omega
    · rw [if_neg hm] at ht
      have hm : isMark c = false := by simpa using hm
      by_cases hd : cur ≠ [] ∧ isDig (cur.getLastD 0) ≠ isDig c
      · rw [if_pos hd] at ht
        rcases List.mem_cons.1 ht with rfl | ht
        · exact ⟨cur, true, rfl, homg_piece h, by simp⟩
        · obtain ⟨q, m, h1, h2, h3⟩ := tokL_piece r [45] [c] ⟨fun x hx => by simp only [List.mem_singleton] at hx; rw [hx]; exact hm, isDig c, fun x hx => by simp only [List.mem_singleton] at hx; rw [hx]⟩ t ht
          refine ⟨q, m, h1, h2, ?_⟩
          simp only [List.length_nil, List.length_cons] at h3 ⊢; omega
      · rw [if_neg hd] at ht
        have hh : Homg (cur ++ [c]) := by
          refine ⟨fun x hx => ?_, isDig c, fun x hx => ?_⟩
          · rcases List.mem_append.1 hx with hx | hx
            · exact h.1 x hx
            · simp only [List.mem_singleton] at hx; rw [hx]; exact hm
          · rcases List.mem_append.1 hx with hx | hx
            · obtain ⟨b, hb⟩ := h.2
              have hne : cur ≠ [] := fun e => by rw [e] at hx; simp at hx
              have hl : isDig (cur.getLastD 0) = isDig c := by
                by_cases e : isDig (cur.getLastD 0) = isDig c
                · exact e
                · exact absurd ⟨hne, e⟩ hd
              rw [← hl, hb x hx, hb _ (getLastD_mem' hne)]
            · simp only [List.mem_singleton] at hx; rw [hx]
        obtain ⟨q, m, h1, h2, h3⟩ := tokL_piece r pre (cur ++ [c]) hh t ht
        refine ⟨q, m, h1, h2, ?_⟩
        simp only [List.length_append, List.length_cons, List.length_nil] at h3 ⊢; omega
theorem vok_mv (s : Bs) (h : s.length ≤ 900000) : ∀ t ∈ mvTokens s, Vok t.v := by
  intro t ht
  rw [mv_raw] at ht
  have h1 := (trimM_form (rawT s)).2.2.1 t ht
  obtain ⟨q, m, h2, h3, h4⟩ := tokL_piece (lower s) [] [] ⟨fun _ hx => absurd hx (by simp), true, fun _ hx => absurd hx (by simp)⟩ t h1
  rw [h2]
  refine nv_vok h3 m ?_
  have hl : (lower s).length = s.length := by simp [lower]
  rw [hl] at h4
  simp only [List.length_nil] at h4; omega
end Go.Proofs.Tz
