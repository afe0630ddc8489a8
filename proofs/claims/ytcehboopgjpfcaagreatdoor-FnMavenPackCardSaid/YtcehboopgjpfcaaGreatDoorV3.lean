/- The texts of the aliases and of the stages: small numbers, plain bytes, short; no Go. -/
import Derived.Test.YtcehboopgjpfcaaGreatDoorV2
namespace Go.Proofs.Mv
open Go.Proofs.Tz (asc_append asc_num asc_dig dec_len_pow asc_word)

theorem dec_small {V n : Nat} (h : n < V) : Runs V (dec n) := runs_digits (by rw [dval_dec]; exact h)
theorem asc_dec (n : Nat) : Asc (dec n) := fun c hc => asc_dig (dec_dig n c hc)
theorem asc_lit {q : Bs} (h : q.all (fun c => decide (c.toNat < 128)) = true) : Asc q := fun c hc => by simpa using List.all_eq_true.1 h c hc
/-- What stands behind a core: no digit first, small numbers, plain bytes, short. -/
structure Tail (V : Nat) (e : Bs) : Prop where
  runs : Runs V e
  head : ∀ c, e.head? = some c → isDig c = false
  asc : Asc e
  len : e.length ≤ 1300
theorem Tail.core {V : Nat} {e : Bs} (h : Tail V e) {ns : List Nat} (h0 : ns ≠ []) (hn : ∀ n ∈ ns, n < V) (hl : (numTxt ns).length ≤ 1200) :
    Runs V (numTxt ns ++ e) ∧ Asc (numTxt ns ++ e) ∧ (numTxt ns ++ e).length ≤ 100000 :=
  ⟨runs_app (runs_num h0 hn) h.runs h.head, asc_append (asc_num ns) h.asc, by rw [List.length_append]; have := h.len; omega⟩
theorem tail_nil {V : Nat} (hV : 0 < V) : Tail V [] := ⟨runs_nil hV, fun _ h => (by cases h), fun _ h => (by simp at h), by simp⟩
theorem tail_lit {V : Nat} (hV : 0 < V) (c : UInt8) (r : Bs) (h : (c :: r).all (fun c => !isDig c) = true) (ha : (c :: r).all (fun c => decide (c.toNat < 128)) = true) (hl : r.length ≤ 20) : Tail V (c :: r) := by
  have hd : ∀ x ∈ c :: r, isDig x = false := fun x hx => by simpa using List.all_eq_true.1 h x hx
  exact ⟨runs_plain hV _ hd, fun x hx => by injection hx with hx; subst hx; exact hd c (by simp), asc_lit ha, by simp; omega⟩
theorem tail_lit_dec {V n : Nat} (hV : 0 < V) (hn : n < V) (hn2 : n < 65536) (c : UInt8) (r : Bs) (h : (c :: r).all (fun c => !isDig c) = true) (ha : (c :: r).all (fun c => decide (c.toNat < 128)) = true) (hl : r.length ≤ 20) :
    Tail V (c :: r ++ dec n) := by
  have hd : ∀ x ∈ c :: r, isDig x = false := fun x hx => by simpa using List.all_eq_true.1 h x hx
  refine ⟨runs_plain_app hV (dec_small hn) _ hd, fun x hx => by injection hx with hx; subst hx; exact hd c (by simp), asc_append (asc_lit ha) (asc_dec n), ?_⟩
  have := dec_len_pow 4 n (by omega)
  rw [List.length_append, List.length_cons]; omega
theorem tail_alias {V n : Nat} (hV : 0 < V) (hn : n < V) (hn2 : n < 65536) : ∀ p ∈ aliases (dec n), Tail V p.1 ∧ Tail V p.2 := by
  have e : ∀ q : Bs, 45 :: q ++ 45 :: dec n = (45 :: (q ++ [45])) ++ dec n := fun q => by simp
  intro p hp
  simp only [aliases, List.mem_cons, List.not_mem_nil, or_false] at hp
  rcases hp with rfl | rfl | rfl | rfl | rfl | rfl | rfl | rfl | rfl | rfl
  · exact ⟨tail_lit_dec hV hn hn2 97 [] (by decide) (by decide) (by decide), by rw [e]; exact tail_lit_dec hV hn hn2 45 (sAlpha ++ [45]) (by decide) (by decide) (by decide)⟩
  · exact ⟨tail_lit_dec hV hn hn2 98 [] (by decide) (by decide) (by decide), by rw [e]; exact tail_lit_dec hV hn hn2 45 (sBeta ++ [45]) (by decide) (by decide) (by decide)⟩
  · exact ⟨tail_lit_dec hV hn hn2 109 [] (by decide) (by decide) (by decide), by rw [e]; exact tail_lit_dec hV hn hn2 45 (sMile ++ [45]) (by decide) (by decide) (by decide)⟩
  · exact ⟨tail_lit_dec hV hn hn2 45 sCr (by decide) (by decide) (by decide), by rw [e]; exact tail_lit_dec hV hn hn2 45 (sRc ++ [45]) (by decide) (by decide) (by decide)⟩
  · exact ⟨tail_lit hV 45 sGa (by decide) (by decide) (by decide), tail_nil hV⟩
  · exact ⟨tail_lit hV 45 sFinal (by decide) (by decide) (by decide), tail_nil hV⟩
  · exact ⟨tail_lit hV 45 [82, 69, 76, 69, 65, 83, 69] (by decide) (by decide) (by decide), tail_nil hV⟩
  · exact ⟨⟨runs_cons hV (by decide) (runs_digits (by exact hV)), fun x hx => by injection hx with hx; subst hx; decide, asc_lit (by decide), by decide⟩, tail_nil hV⟩
  · exact ⟨⟨runs_cons hV (by decide) (runs_digits (by exact hV)), fun x hx => by injection hx with hx; subst hx; decide, asc_lit (by decide), by decide⟩, tail_nil hV⟩
  · exact ⟨tail_lit_dec hV hn hn2 45 sAlpha (by decide) (by decide) (by decide), by rw [e]; exact tail_lit_dec hV hn hn2 45 (sAlpha ++ [45]) (by decide) (by decide) (by decide)⟩
theorem word_nodig {q : Bs} (h : isWord q = true) : ∀ c ∈ q, isDig c = false := fun c hc => ((hom_word h).2 c hc).2
theorem tail_ends {V : Nat} (hV : 1 < V) {q : Bs} (hq : isWord q = true) (hl : q.length ≤ 1200) : ∀ e ∈ ends q, Tail V e := by
  intro e he
  have h0 : 0 < V := by omega
  simp only [ends, List.mem_cons, List.not_mem_nil, or_false] at he
  rcases he with rfl | rfl | rfl | rfl | rfl | rfl | rfl | rfl | rfl | rfl
  · exact tail_lit h0 45 sAlpha (by decide) (by decide) (by decide)
  · exact tail_lit h0 45 sBeta (by decide) (by decide) (by decide)
  · exact tail_lit h0 45 sMile (by decide) (by decide) (by decide)
  · exact tail_lit h0 45 sRc (by decide) (by decide) (by decide)
  · exact tail_lit h0 45 sSnap (by decide) (by decide) (by decide)
  · exact tail_nil h0
  · exact tail_lit h0 45 sSp (by decide) (by decide) (by decide)
  · refine ⟨runs_cons h0 (by decide) (runs_plain h0 q (word_nodig hq)), fun x hx => by injection hx with hx; subst hx; decide, fun c hc => ?_, by simp; omega⟩
    rcases List.mem_cons.1 hc with rfl | hc
    · decide
    · exact asc_word hq c hc
  · exact ⟨runs_cons h0 (by decide) (runs_digits (by exact hV)), fun x hx => by injection hx with hx; subst hx; decide, asc_lit (by decide), by decide⟩
  · exact ⟨runs_cons h0 (by decide) (runs_digits (by exact hV)), fun x hx => by injection hx with hx; subst hx; decide, asc_lit (by decide), by decide⟩
end Go.Proofs.Mv
