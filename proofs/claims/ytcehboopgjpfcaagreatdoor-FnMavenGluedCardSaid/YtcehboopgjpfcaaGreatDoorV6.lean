/- Plain: the text of words and numbers, piece by piece, for the law on glued versions; no Go. -/
import Derived.Test.YtcehboopgjpfcaaGreatDoorV4
import Derived.Test.YtcehboopgjpfcaaGreatDoorS3
namespace Go.Proofs.Mv
/-- The text of words and numbers: j stands where a digit and a letter meet. -/
def gtx (j : Bs) (pt : Nat → Bool) : List Bs → Bs
  | [] => []
  | q :: l => ptxt (⟨[], q⟩ :: gpcs j pt 1 (allDig q) l)
def lastD (d : Bool) : List Bs → Bool
  | [] => d
  | w :: r => lastD (allDig w) r
theorem lastD_snoc (w : Bs) : ∀ (l : List Bs) (d : Bool), lastD d (l ++ [w]) = allDig w
  | [], _ => rfl
  | x :: r, d => by rw [List.cons_append, lastD, lastD_snoc w r]
theorem gpcs_snoc (j : Bs) (pt : Nat → Bool) (w : Bs) : ∀ (l : List Bs) (i : Nat) (d : Bool), gpcs j pt i d (l ++ [w]) = gpcs j pt i d l ++ [⟨if allDig w = lastD d l then (if pt (i + l.length) = true then [46] else [45]) else j, w⟩]
  | [], i, d => by simp [gpcs, lastD]; rfl
  | x :: r, i, d => by
    rw [List.cons_append, gpcs, gpcs_snoc j pt w r (i + 1) (allDig x), gpcs, lastD, List.length_cons, List.cons_append, show i + 1 + r.length = i + (r.length + 1) by omega]
theorem gtx_one (j : Bs) (pt : Nat → Bool) (w : Bs) : gtx j pt [w] = w := by simp [gtx, gpcs, ptxt]
theorem gtx_snoc (j : Bs) (pt : Nat → Bool) (l : List Bs) (v w : Bs) : gtx j pt (l ++ [v] ++ [w]) = gtx j pt (l ++ [v]) ++ (if allDig w = allDig v then (if pt (l.length + 1) = true then [46] else [45]) else j) ++ w := by
  cases l with
  | nil => simp [gtx, gpcs, ptxt]
  | cons q r =>
    have e1 : q :: r ++ [v] ++ [w] = q :: ((r ++ [v]) ++ [w]) := by simp
    have e2 : q :: r ++ [v] = q :: (r ++ [v]) := rfl
    rw [e1, e2, gtx, gtx, gpcs_snoc, lastD_snoc, ← List.cons_append, ptxt_append]
    rw [show 1 + (r ++ [v]).length = (q :: r).length + 1 by simp; omega]
    simp [ptxt]
theorem gtx_len (j : Bs) (hj : j.length ≤ 1) (pt : Nat → Bool) (N : Nat) : ∀ (l : List Bs), (∀ w ∈ l, w.length ≤ N) → (gtx j pt l).length ≤ (N + 1) * l.length := by
  have key : ∀ (l : List Bs) (i : Nat) (d : Bool), (∀ w ∈ l, w.length ≤ N) → (ptxt (gpcs j pt i d l)).length ≤ (N + 1) * l.length := by
    intro l
    induction l with
    | nil => intro i d _; simp [gpcs, ptxt]
    | cons w r ih =>
      intro i d h
      have h1 := ih (i + 1) (allDig w) fun x hx => h x (by simp [hx])
      have h2 := h w (by simp)
      rw [gpcs, ptxt_cons, List.length_append, List.length_append, List.length_cons, Nat.mul_add]
      have : (if allDig w = d then (if pt i = true then [46] else [45]) else j : Bs).length ≤ 1 := by
        split
        · split <;> simp
        · exact hj
      simp only at this ⊢
      omega
  intro l h
  cases l with
  | nil => simp [gtx]
  | cons q r =>
    have h1 := key r 1 (allDig q) fun x hx => h x (by simp [hx])
    have h2 := h q (by simp)
    rw [gtx, ptxt_cons, List.length_append, List.length_append, List.length_cons, Nat.mul_add]
    simp only [List.length_nil] at *
    omega
theorem gtx_law (j : Bs) (hj : j = [] ∨ j = [45]) (pt : Nat → Bool) {l : List Bs} (hl : ∀ w ∈ l, Sort1 w) : mvTokens (gtx j pt l) = mvTokens (gtx [45] pt l) := by
  cases l with
  | nil => rfl
  | cons q r => exact glued_law j hj pt (fun w hw => hl w (by simp [hw])) (hl q (by simp))

theorem sort_digits {w : Bs} (h : Sort1 w) (hd : allDig w = true) : ∀ c ∈ w, isDig c = true := fun c hc => (h.1.elim fun b hb => by rw [hom_allDig hb] at hd; subst hd; exact (hb.2 c hc).2)
theorem sort_letters {w : Bs} (h : Sort1 w) (hd : allDig w = false) : ∀ c ∈ w, isDig c = false := fun c hc => (h.1.elim fun b hb => by rw [hom_allDig hb] at hd; subst hd; exact (hb.2 c hc).2)
theorem sort_ne {w : Bs} (h : Sort1 w) : w ≠ [] := h.1.elim fun _ hb => hb.1
/-- No run of digits in such a text is longer than a word. -/
theorem runs_gpcs {V N : Nat} (hV : 10 ^ N ≤ V) (j : Bs) (hj : j = [] ∨ j = [45]) (pt : Nat → Bool) : ∀ (l : List Bs) (i : Nat) (d : Bool), (∀ w ∈ l, Sort1 w ∧ w.length ≤ N) →
    Runs V (ptxt (gpcs j pt i d l)) ∧ (d = true → ∀ c, (ptxt (gpcs j pt i d l)).head? = some c → isDig c = false) := by
  have hV0 : 0 < V := Nat.lt_of_lt_of_le (Nat.pow_pos (by omega)) hV
  intro l
  induction l with
  | nil => intro i d _; exact ⟨runs_nil hV0, fun _ c h => by simp [gpcs, ptxt] at h⟩
  | cons w r ih =>
    intro i d h
    obtain ⟨hw, hwl⟩ := h w (by simp)
    obtain ⟨h1, h2⟩ := ih (i + 1) (allDig w) fun x hx => h x (by simp [hx])
    have hr : Runs V (w ++ ptxt (gpcs j pt (i + 1) (allDig w) r)) := by
      cases hd : allDig w with
      | true =>
        rw [hd] at h1 h2
        exact runs_app (runs_len (Nat.le_trans (Nat.pow_le_pow_right (by omega) hwl) hV)) h1 (h2 rfl)
      | false =>
        rw [hd] at h1
        exact runs_plain_app hV0 h1 w (sort_letters hw hd)
    rw [gpcs, ptxt_cons]
    by_cases hs : allDig w = d
    · rw [if_pos hs]
      have hm : ∀ m : Bs, m = (if pt i = true then [46] else [45]) → Runs V (m ++ w ++ ptxt (gpcs j pt (i + 1) (allDig w) r)) ∧ (d = true → ∀ c, (m ++ w ++ ptxt (gpcs j pt (i + 1) (allDig w) r)).head? = some c → isDig c = false) := by
        intro m hm
        have : ∃ c, m = [c] ∧ isDig c = false := by
          rw [hm]; split
          · exact ⟨46, rfl, rfl⟩
          · exact ⟨45, rfl, rfl⟩
        obtain ⟨c, rfl, hc⟩ := this
        refine ⟨?_, fun _ e he => by simp at he; subst he; exact hc⟩
        rw [List.append_assoc]
        exact runs_cons hV0 hc hr
      exact hm _ rfl
    · rw [if_neg hs]
      rcases hj with rfl | rfl
      · refine ⟨by simpa using hr, fun hd c hc => ?_⟩
        have hwd : allDig w = false := by
          cases hx : allDig w with
          | false => rfl
          | true => exact absurd (hx.trans hd.symm) hs
        obtain ⟨a, t, rfl⟩ : ∃ a t, w = a :: t := by
          cases w with
          | nil => exact absurd rfl (sort_ne hw)
          | cons a t => exact ⟨a, t, rfl⟩
        simp at hc
        subst hc
        exact sort_letters hw hwd a (by simp)
      · refine ⟨?_, fun _ e he => by simp at he; subst he; rfl⟩
        rw [List.append_assoc]
        exact runs_cons hV0 rfl hr
theorem runs_gtx {V N : Nat} (hV : 10 ^ N ≤ V) (j : Bs) (hj : j = [] ∨ j = [45]) (pt : Nat → Bool) {l : List Bs} (hl : ∀ w ∈ l, Sort1 w ∧ w.length ≤ N) : Runs V (gtx j pt l) := by
  have hV0 : 0 < V := Nat.lt_of_lt_of_le (Nat.pow_pos (by omega)) hV
  cases l with
  | nil => exact runs_nil hV0
  | cons q r =>
    obtain ⟨hw, hwl⟩ := hl q (by simp)
    obtain ⟨h1, h2⟩ := runs_gpcs hV j hj pt r 1 (allDig q) fun x hx => hl x (by simp [hx])
    rw [gtx, ptxt_cons, List.nil_append]
    cases hd : allDig q with
    | true =>
      rw [hd] at h1 h2
      exact runs_app (runs_len (Nat.le_trans (Nat.pow_le_pow_right (by omega) hwl) hV)) h1 (h2 rfl)
    | false =>
      rw [hd] at h1
      exact runs_plain_app hV0 h1 q (sort_letters hw hd)
end Go.Proofs.Mv
