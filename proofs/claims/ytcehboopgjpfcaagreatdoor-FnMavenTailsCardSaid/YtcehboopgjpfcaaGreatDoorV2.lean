/- Texts whose runs of digits are small numbers; no Go. -/
import Derived.Test.YtcehboopgjpfcaaGreatDoorV1
import Derived.Test.YtcehboopgjpfcaaGreatDoorL8
namespace Go.Proofs.Mv
open Go.Proofs.Tz (Homg homg_piece)

/-- Every run of digits is a number below V. -/
def Runs (V : Nat) (l : Bs) : Prop := ∀ a q b, l = a ++ (q ++ b) → (∀ c ∈ q, isDig c = true) → dval q < V
theorem runs_nil {V : Nat} (hV : 0 < V) : Runs V [] := by
  intro a q b h _
  have : q = [] := by
    have h1 := congrArg List.length h
    simp only [List.length_nil, List.length_append] at h1
    exact List.length_eq_zero_iff.1 (by omega)
  rw [this]; exact hV
theorem dval_part (a q b : Bs) : dval q ≤ dval (a ++ (q ++ b)) := by
  have h1 := Go.Proofs.Tz.dval_append a (q ++ b)
  have h2 := Go.Proofs.Tz.dval_append q b
  have h3 : dval q * 1 ≤ dval q * 10 ^ b.length := Nat.mul_le_mul_left _ (Nat.pow_pos (by decide))
  omega
theorem runs_digits {V : Nat} {q : Bs} (h : dval q < V) : Runs V q := by
  intro a p b e _
  have := dval_part a p b
  rw [← e] at this; omega
theorem runs_cut {V : Nat} {c : UInt8} (hc : isDig c = false) {y : Bs} (hy : Runs V y) : ∀ {x : Bs}, Runs V x → Runs V (x ++ c :: y) := by
  intro x hx a q b e hq
  rcases List.append_eq_append_iff.1 e with ⟨d, h1, h2⟩ | ⟨d, h1, h2⟩
  · -- a = x ++ d, c :: y = d ++ (q ++ b)
    cases d with
    | nil =>
      cases q with
      | nil => exact hx x [] [] (by simp) hq
      | cons k q =>
        rw [List.nil_append, List.cons_append] at h2
        injection h2 with h3 _
        have := hq k (by simp)
        rw [← h3, hc] at this; cases this
    | cons k d =>
      rw [List.cons_append] at h2
      injection h2 with _ h3
      exact hy d q b h3 hq
  · -- x = a ++ d, q ++ b = d ++ c :: y
    rcases List.append_eq_append_iff.1 h2 with ⟨g, h3, h4⟩ | ⟨g, h3, h4⟩
    · -- d = q ++ g
      exact hx a q g (by rw [h1, h3]) hq
    · -- q = d ++ g, c :: y = g ++ b
      cases g with
      | nil =>
        rw [List.append_nil] at h3
        exact hx a q [] (by rw [h1, h3, List.append_nil]) hq
      | cons k g =>
        rw [List.cons_append] at h4
        injection h4 with h5 _
        have := hq k (by rw [h3]; simp)
        rw [← h5, hc] at this; cases this
theorem runs_cons {V : Nat} (hV : 0 < V) {c : UInt8} (hc : isDig c = false) {y : Bs} (hy : Runs V y) : Runs V (c :: y) := runs_cut (x := []) hc hy (runs_nil hV)
theorem runs_plain {V : Nat} (hV : 0 < V) : ∀ (q : Bs), (∀ c ∈ q, isDig c = false) → Runs V q
  | [], _ => runs_nil hV
  | c :: r, h => runs_cons hV (h c (by simp)) (runs_plain hV r fun x hx => h x (by simp [hx]))
theorem runs_plain_app {V : Nat} (hV : 0 < V) {y : Bs} (hy : Runs V y) : ∀ (q : Bs), (∀ c ∈ q, isDig c = false) → Runs V (q ++ y)
  | [], _ => hy
  | c :: r, h => runs_cons hV (h c (by simp)) (runs_plain_app hV hy r fun x hx => h x (by simp [hx]))
/-- Behind a text, another one that begins with no digit, or none. -/
theorem runs_app {V : Nat} {x : Bs} (hx : Runs V x) : ∀ {y : Bs}, Runs V y → (∀ c, y.head? = some c → isDig c = false) → Runs V (x ++ y)
  | [], _, _ => by rw [List.append_nil]; exact hx
  | c :: y, hy, h => runs_cut (h c rfl) (fun a q b e hq => hy (c :: a) q b (by rw [e]; rfl) hq) hx
theorem runs_num {V : Nat} : ∀ {ns : List Nat}, ns ≠ [] → (∀ n ∈ ns, n < V) → Runs V (numTxt ns)
  | [], h, _ => absurd rfl h
  | [n], _, h => by rw [numTxt_one]; exact runs_digits (by rw [dval_dec]; exact h n (by simp))
  | n :: m :: r, _, h => by
    rw [numTxt_cons]
    exact runs_cut (by decide) (runs_num (by simp) fun k hk => h k (by simp [hk])) (runs_digits (by rw [dval_dec]; exact h n (by simp)))
theorem runs_len {l : Bs} {V : Nat} (h : 10 ^ l.length ≤ V) : Runs V l := by
  intro a q b e hq
  have h1 := dval_lt q hq
  have h2 : q.length ≤ l.length := by rw [e]; simp only [List.length_append]; omega
  exact Nat.lt_of_lt_of_le h1 (Nat.le_trans (Nat.pow_le_pow_right (by decide) h2) h)
theorem lower_digits {q : Bs} (h : ∀ c ∈ lower q, isDig c = true) : ∀ c ∈ q, isDig c = true := by
  intro c hc
  have := h (low c) (by unfold lower; exact List.mem_map_of_mem hc)
  rwa [isDig_low] at this
theorem runs_lower {V : Nat} {l : Bs} (h : Runs V l) : Runs V (lower l) := by
  intro a q b e hq
  have e' : l.map low = a ++ (q ++ b) := e
  obtain ⟨a', r', h1, h2, h3⟩ := List.map_eq_append_iff.1 e'
  obtain ⟨q', b', h4, h5, h6⟩ := List.map_eq_append_iff.1 h3
  have hq' : ∀ c ∈ q', isDig c = true := lower_digits (by rw [show lower q' = q from h5]; exact hq)
  have : q = q' := by rw [← h5]; exact lower_dig hq'
  rw [this]
  exact h a' q' b' (by rw [h1, h4]) hq'
theorem tokL_sub : ∀ (r pre cur : Bs), Homg cur → ∀ t ∈ tokL pre cur r, ∃ q m a b, t.v = nv q m ∧ Homg q ∧ cur ++ r = a ++ (q ++ b)
  | [], pre, cur, h, t, ht => by
    rw [tokL] at ht
    simp only [List.mem_singleton] at ht
    subst ht
    exact ⟨cur, false, [], [], rfl, h, by simp⟩
  | c :: r, pre, cur, h, t, ht => by
    rw [tokL] at ht
    by_cases hm : isMark c = true
    · rw [if_pos hm] at ht
      rcases List.mem_cons.1 ht with rfl | ht
      · exact ⟨cur, false, [], c :: r, rfl, h, by simp⟩
      · obtain ⟨q, m, a, b, h1, h2, h3⟩ := tokL_sub r [c] [] ⟨fun _ hx => absurd hx (by simp), true, fun _ hx => absurd hx (by simp)⟩ t ht
        refine ⟨q, m, cur ++ [c] ++ a, b, h1, h2, ?_⟩
        rw [List.nil_append] at h3
        rw [h3]; simp
    · rw [if_neg hm] at ht
      have hm : isMark c = false := by simpa using hm
      by_cases hd : cur ≠ [] ∧ isDig (cur.getLastD 0) ≠ isDig c
      · rw [if_pos hd] at ht
        rcases List.mem_cons.1 ht with rfl | ht
        · exact ⟨cur, true, [], c :: r, rfl, h, by simp⟩
        · obtain ⟨q, m, a, b, h1, h2, h3⟩ := tokL_sub r [45] [c] ⟨fun x hx => by simp only [List.mem_singleton] at hx; rw [hx]; exact hm, isDig c, fun x hx => by simp only [List.mem_singleton] at hx; rw [hx]⟩ t ht
          refine ⟨q, m, cur ++ a, b, h1, h2, ?_⟩
          have h3 : c :: r = a ++ (q ++ b) := h3
          rw [h3]; simp
      · rw [if_neg hd] at ht
        have hh : Homg (cur ++ [c]) := by
          refine ⟨fun x hx => ?_, isDig c, fun x hx => ?_⟩
          · rcases List.mem_append.1 hx with hx | hx
            · exact h.1 x hx
            · simp only [List.mem_singleton] at hx; rw [hx]; exact hm
          · rcases List.mem_append.1 hx with hx | hx
            · obtain ⟨b, hb⟩ := h.2
              have hne : cur ≠ [] := fun e => by rw [e] at hx; simp at hx
              have hl : isDig (cur.getLastD 0) = isDig c := by
                by_cases e : isDig (cur.getLastD 0) = isDig c
                · exact e
                · exact absurd ⟨hne, e⟩ hd
              rw [← hl, hb x hx, hb _ (Go.Proofs.Tz.getLastD_mem' hne)]
            · simp only [List.mem_singleton] at hx; rw [hx]
        obtain ⟨q, m, a, b, h1, h2, h3⟩ := tokL_sub r pre (cur ++ [c]) hh t ht
        exact ⟨q, m, a, b, h1, h2, by rw [← h3]; simp⟩
theorem nums_runs {V : Nat} (hV : 0 < V) {l : Bs} (h : Runs V l) : Go.Proofs.Tz.Nums V l := by
  refine nums_raw fun t ht hd => ?_
  obtain ⟨q, m, a, b, h1, h2, h3⟩ := tokL_sub (lower l) [] [] ⟨fun _ hx => absurd hx (by simp), true, fun _ hx => absurd hx (by simp)⟩ t ht
  have h2 := homg_piece h2
  rw [h1] at hd ⊢
  rw [List.nil_append] at h3
  rcases h2 with rfl | h2 | h2
  · rw [nv, if_pos rfl]; exact hV
  · rw [(Go.Proofs.Tz.dval_nv h2).2]
    exact runs_lower h a q b h3 ((allDig_iff q).1 h2).2
  · by_cases h0 : q = []
    · subst h0; rw [nv, if_pos rfl]; exact hV
    · exfalso
      rw [nv, if_neg h0] at hd
      have hq : allDig q = false := by
        cases hq : allDig q
        · rfl
        · obtain ⟨h4, h5⟩ := (allDig_iff q).1 hq
          obtain ⟨c, hc⟩ := List.exists_mem_of_ne_nil q h4
          have h6 := (h2 c hc).1
          rw [h5 c hc] at h6; cases h6
      rw [if_neg (by rw [hq]; decide)] at hd
      repeat' split at hd
      all_goals first | (exact absurd hd (by decide)) | (rw [hq] at hd; cases hd)
end Go.Proofs.Mv
