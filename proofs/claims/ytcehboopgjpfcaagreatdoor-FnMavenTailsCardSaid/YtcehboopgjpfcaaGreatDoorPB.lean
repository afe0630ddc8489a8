/- P4 P5 P6 K1 in one text. -/
import Derived.Test.YtcehboopgjpfcaaGreatDoorPA
/- Plain functions on numbers as lists of words, the lowest first; no Go. -/
namespace Go.Proofs.Mv

def WB : Nat := 18446744073709551616
theorem WB_pos : 0 < WB := by unfold WB; omega

def val : List Nat → Nat
  | [] => 0
  | x :: xs => x + WB * val xs
def Ws (xs : List Nat) : Prop := ∀ x ∈ xs, x < WB

theorem val_nil : val [] = 0 := by simp only [val]
theorem val_cons (x : Nat) (xs : List Nat) : val (x :: xs) = x + WB * val xs := by simp only [val]
theorem val_append (a b : List Nat) : val (a ++ b) = val a + WB ^ a.length * val b := by
  induction a with
  | nil => simp [val_nil]
  | cons x r ih => rw [List.cons_append, val_cons, val_cons, ih, List.length_cons, Nat.mul_add, Nat.pow_succ, Nat.mul_comm (WB ^ r.length) WB, Nat.mul_assoc]; omega
theorem Ws.cons {x : Nat} {xs : List Nat} (h : Ws (x :: xs)) : x < WB ∧ Ws xs := ⟨h x (by simp), fun y hy => h y (by simp [hy])⟩
theorem Ws.mk {x : Nat} {xs : List Nat} (h : x < WB) (hs : Ws xs) : Ws (x :: xs) := fun y hy => by
  rcases List.mem_cons.1 hy with rfl | hy
  · exact h
  · exact hs y hy
theorem Ws.nil : Ws [] := fun x hx => by simp at hx
theorem Ws.append {a b : List Nat} (ha : Ws a) (hb : Ws b) : Ws (a ++ b) := fun x hx => by
  rcases List.mem_append.1 hx with h | h
  · exact ha x h
  · exact hb x h
theorem val_lt {xs : List Nat} (h : Ws xs) : val xs < WB ^ xs.length := by
  induction xs with
  | nil => simp [val_nil]
  | cons x r ih =>
    have hx := h.cons.1
    have := ih h.cons.2
    rw [val_cons, List.length_cons, Nat.pow_succ]
    have h1 : WB * (val r + 1) ≤ WB * WB ^ r.length := Nat.mul_le_mul_left _ this
    rw [Nat.mul_add] at h1
    rw [Nat.mul_comm (WB ^ r.length) WB]
    omega

/-- Without the words at the top that are 0. -/
def normL : List Nat → List Nat
  | [] => []
  | x :: xs => match normL xs with
    | [] => if x = 0 then [] else [x]
    | y :: ys => x :: y :: ys

theorem normL_cons (x : Nat) (xs : List Nat) : normL (x :: xs) = if normL xs = [] then (if x = 0 then [] else [x]) else x :: normL xs := by
  rw [normL]
  split
  · rename_i h; rw [if_pos h]
  · rename_i y ys h; rw [if_neg (by rw [h]; simp), h]
theorem val_normL (xs : List Nat) : val (normL xs) = val xs := by
  induction xs with
  | nil => rfl
  | cons x r ih =>
    rw [normL_cons, val_cons]
    split
    · rename_i h
      rw [h, val_nil] at ih
      split
      · rename_i h0; rw [val_nil, ← ih, h0]; simp
      · rw [val_cons, val_nil, ← ih]
    · rw [val_cons, ih]
theorem Ws.norm {xs : List Nat} (h : Ws xs) : Ws (normL xs) := by
  induction xs with
  | nil => exact h
  | cons x r ih =>
    rw [normL_cons]
    split
    · split
      · exact Ws.nil
      · exact Ws.mk h.cons.1 Ws.nil
    · exact Ws.mk h.cons.1 (ih h.cons.2)
/-- No word at the top is 0. -/
def Nrm (xs : List Nat) : Prop := normL xs = xs
theorem Nrm.nil : Nrm [] := rfl
theorem nrm_normL (xs : List Nat) : Nrm (normL xs) := by
  unfold Nrm
  induction xs with
  | nil => rfl
  | cons x r ih =>
    rw [normL_cons]
    split
    · split
      · rfl
      · rename_i h; rw [normL_cons]; simp [normL, h]
    · rename_i h; rw [normL_cons, ih, if_neg h]
theorem normL_take (xs : List Nat) : ∃ n, n ≤ xs.length ∧ normL xs = xs.take n ∧ ∀ i, n ≤ i → i < xs.length → xs[i]? = some 0 := by
  induction xs with
  | nil => exact ⟨0, by simp, rfl, fun i _ h => by simp at h⟩
  | cons x r ih =>
    obtain ⟨n, hn, he, hz⟩ := ih
    rw [normL_cons]
    by_cases h : normL r = []
    · rw [if_pos h]
      have hz' : ∀ i, i < r.length → r[i]? = some 0 := fun i hi => hz i (by
        rw [he] at h
        by_cases h0 : n = 0
        · omega
        · exfalso
          have := congrArg List.length h
          simp at this
          rcases this with h1 | h1
          · exact h0 h1
          · rw [h1] at hi; simp at hi) hi
      by_cases hx : x = 0
      · rw [if_pos hx]
        refine ⟨0, by simp, rfl, fun i _ hi => ?_⟩
        cases i with
        | zero => simp [hx]
        | succ i => simpa using hz' i (by simpa using hi)
      · rw [if_neg hx]
        refine ⟨1, by simp, rfl, fun i h1 hi => ?_⟩
        cases i with
        | zero => omega
        | succ i => simpa using hz' i (by simpa using hi)
    · rw [if_neg h]
      refine ⟨n + 1, by simp; omega, by rw [List.take_succ_cons, he], fun i h1 hi => ?_⟩
      cases i with
      | zero => omega
      | succ i => simpa using hz i (by omega) (by simpa using hi)

/-- A normal number that is not empty has a word at the top that is not 0. -/
theorem Nrm.top {xs : List Nat} {x : Nat} (h : Nrm (xs ++ [x])) : x ≠ 0 := by
  intro h0
  subst h0
  unfold Nrm at h
  have : ∀ l : List Nat, normL (l ++ [0]) ≠ l ++ [0] := by
    intro l
    induction l with
    | nil => simp [normL]
    | cons a r ih =>
      rw [List.cons_append, normL_cons]
      split
      · rename_i hr
        split
        · simp
        · intro he
          injection he with _ he
          simp at he
      · intro he
        injection he with _ he
        exact ih he
  exact this xs h
theorem nrm_of_top {xs : List Nat} {x : Nat} (h : x ≠ 0) : Nrm (xs ++ [x]) := by
  unfold Nrm
  induction xs with
  | nil => simp [normL, h]
  | cons a r ih =>
    rw [List.cons_append, normL_cons, ih, if_neg (by simp)]
theorem val_pos_of_nrm {xs : List Nat} (h : Nrm xs) (hne : xs ≠ []) : WB ^ (xs.length - 1) ≤ val xs := by
  rcases List.eq_nil_or_concat xs with h1 | ⟨l, x, h1⟩
  · exact absurd h1 hne
  · rw [List.concat_eq_append] at h1
    subst h1
    have := h.top
    rw [val_append, val_cons, val_nil]
    simp only [List.length_append, List.length_singleton, Nat.add_sub_cancel, Nat.mul_zero, Nat.add_zero]
    have : WB ^ l.length * 1 ≤ WB ^ l.length * x := Nat.mul_le_mul_left _ (by omega)
    omega
theorem val_zero_nrm {xs : List Nat} (h : Nrm xs) (h0 : val xs = 0) : xs = [] := by
  by_cases e : xs = []
  · exact e
  · have := val_pos_of_nrm h e
    have : 0 < WB ^ (xs.length - 1) := Nat.pow_pos WB_pos
    omega
/-- Normal words of one value are one. -/
theorem val_inj {xs : List Nat} : ∀ {ys : List Nat}, Ws xs → Ws ys → xs.length = ys.length → val xs = val ys → xs = ys := by
  induction xs with
  | nil => intro ys _ _ hl _; exact (List.eq_nil_of_length_eq_zero hl.symm).symm
  | cons x r ih =>
    intro ys hx hy hl hv
    cases ys with
    | nil => simp at hl
    | cons y s =>
      have h1 := hx.cons
      have h2 := hy.cons
      rw [val_cons, val_cons] at hv
      have e : x = y := by
        have := congrArg (· % WB) hv
        simp only [Nat.add_mul_mod_self_left] at this
        rwa [Nat.mod_eq_of_lt h1.1, Nat.mod_eq_of_lt h2.1] at this
      subst e
      have : val r = val s := Nat.eq_of_mul_eq_mul_left WB_pos (by omega)
      rw [ih h1.2 h2.2 (by simpa using hl) this]
theorem nrm_inj {xs ys : List Nat} (hx : Ws xs) (hy : Ws ys) (nx : Nrm xs) (ny : Nrm ys) (hv : val xs = val ys) : xs = ys := by
  have key : ∀ {a b : List Nat}, Ws a → Ws b → Nrm b → val a = val b → b.length ≤ a.length := by
    intro a b ha hb nb h
    by_cases e : b = []
    · subst e; simp
    · have h1 := val_pos_of_nrm nb e
      have h2 := val_lt ha
      rw [h] at h2
      have : b.length - 1 < a.length := (Nat.pow_lt_pow_iff_right (by unfold WB; omega)).1 (Nat.lt_of_le_of_lt h1 h2)
      have : 0 < b.length := List.length_pos_iff.2 e
      omega
  exact val_inj hx hy (Nat.le_antisymm (key hy hx nx hv.symm) (key hx hy ny hv)) hv

/-- Times y and c more: the words and what is carried out. -/
def mulAddL (y : Nat) : Nat → List Nat → List Nat × Nat
  | c, [] => ([], c)
  | c, x :: xs =>
    let t := mulAddL y ((x * y + c) / WB) xs
    ((x * y + c) % WB :: t.1, t.2)

theorem mulAddL_cons (y c x : Nat) (xs : List Nat) : mulAddL y c (x :: xs) = ((x * y + c) % WB :: (mulAddL y ((x * y + c) / WB) xs).1, (mulAddL y ((x * y + c) / WB) xs).2) := by
  rw [mulAddL]
theorem mulAddL_len (y : Nat) (xs : List Nat) : ∀ c, (mulAddL y c xs).1.length = xs.length := by
  induction xs with
  | nil => intro c; rfl
  | cons x r ih => intro c; rw [mulAddL_cons]; simp [ih]
theorem mulAddL_val (y : Nat) (xs : List Nat) : ∀ c, val (mulAddL y c xs).1 + WB ^ xs.length * (mulAddL y c xs).2 = y * val xs + c := by
  induction xs with
  | nil => intro c; simp [mulAddL, val_nil]
  | cons x r ih =>
    intro c
    have h := ih ((x * y + c) / WB)
    have hd := Nat.div_add_mod (x * y + c) WB
    rw [mulAddL_cons]
    simp only [val_cons, List.length_cons]
    have e1 : WB ^ (r.length + 1) * (mulAddL y ((x * y + c) / WB) r).2 = WB * (WB ^ r.length * (mulAddL y ((x * y + c) / WB) r).2) := by
      rw [Nat.pow_succ, Nat.mul_comm (WB ^ r.length) WB, Nat.mul_assoc]
    rw [e1, Nat.add_assoc, ← Nat.mul_add, h, Nat.mul_add, Nat.mul_add]
    have e2 : WB * (y * val r) = y * (WB * val r) := by rw [← Nat.mul_assoc, Nat.mul_comm WB y, Nat.mul_assoc]
    have e3 : x * y = y * x := Nat.mul_comm _ _
    omega
theorem mulAdd_carry {x y c : Nat} (hx : x < WB) (hy : y < WB) (hc : c < WB) : (x * y + c) / WB < WB := by
  rw [Nat.div_lt_iff_lt_mul WB_pos]
  have : x * y ≤ (WB - 1) * (WB - 1) := Nat.mul_le_mul (by omega) (by omega)
  have : (WB - 1) * (WB - 1) + WB ≤ WB * WB := by unfold WB; omega
  omega
theorem mulAddL_ws {y : Nat} (hy : y < WB) {xs : List Nat} (h : Ws xs) : ∀ c, c < WB → Ws (mulAddL y c xs).1 ∧ (mulAddL y c xs).2 < WB := by
  induction xs with
  | nil => intro c hc; exact ⟨Ws.nil, hc⟩
  | cons x r ih =>
    intro c hc
    have := ih h.cons.2 _ (mulAdd_carry h.cons.1 hy hc)
    rw [mulAddL_cons]
    exact ⟨Ws.mk (Nat.mod_lt _ WB_pos) this.1, this.2⟩
theorem mulAddL_take (y : Nat) (xs : List Nat) : ∀ c k, k ≤ xs.length → (mulAddL y c (xs.take k)).1 = (mulAddL y c xs).1.take k := by
  induction xs with
  | nil => intro c k hk; simp [mulAddL]
  | cons x r ih =>
    intro c k hk
    cases k with
    | zero => simp [mulAddL]
    | succ k => rw [List.take_succ_cons, mulAddL_cons, mulAddL_cons, List.take_succ_cons, ih _ k (by simpa using hk)]
theorem mulAddL_snoc (y : Nat) (xs : List Nat) (x : Nat) : ∀ c, mulAddL y c (xs ++ [x]) = ((mulAddL y c xs).1 ++ [(x * y + (mulAddL y c xs).2) % WB], (x * y + (mulAddL y c xs).2) / WB) := by
  induction xs with
  | nil => intro c; simp [mulAddL]
  | cons a r ih => intro c; rw [List.cons_append, mulAddL_cons, ih, mulAddL_cons]; simp

/-- z*y + r, in normal form, as nat.mulAddWW gives it. -/
def mulAddN (xs : List Nat) (y r : Nat) : List Nat :=
  if xs = [] ∨ y = 0 then (if r = 0 then [] else [r]) else normL ((mulAddL y r xs).1 ++ [(mulAddL y r xs).2])

theorem mulAddN_val (xs : List Nat) (y r : Nat) (hy : y ≠ 0) : val (mulAddN xs y r) = y * val xs + r := by
  unfold mulAddN
  split
  · rename_i h
    rcases h with rfl | h
    · rw [val_nil]; split
      · rename_i h0; rw [h0, val_nil]; simp
      · rw [val_cons, val_nil]; simp
    · exact absurd h hy
  · rw [val_normL, val_append, val_cons, val_nil, mulAddL_len, ← mulAddL_val]; simp
theorem mulAddN_nrm (xs : List Nat) (y r : Nat) : Nrm (mulAddN xs y r) := by
  unfold mulAddN
  split
  · split
    · exact Nrm.nil
    · rename_i h; exact nrm_of_top (xs := []) h
  · exact nrm_normL _
theorem mulAddN_ws {xs : List Nat} {y r : Nat} (h : Ws xs) (hy : y < WB) (hr : r < WB) : Ws (mulAddN xs y r) := by
  unfold mulAddN
  split
  · split
    · exact Ws.nil
    · exact Ws.mk hr Ws.nil
  · have := mulAddL_ws hy h r hr
    exact (this.1.append (Ws.mk this.2 Ws.nil)).norm

/-! ### Division by one word -/
def divL (y : Nat) : List Nat → List Nat × Nat
  | [] => ([], 0)
  | x :: xs =>
    let t := divL y xs
    ((t.2 * WB + x) / y :: t.1, (t.2 * WB + x) % y)
theorem divL_cons (y x : Nat) (xs : List Nat) : divL y (x :: xs) = (((divL y xs).2 * WB + x) / y :: (divL y xs).1, ((divL y xs).2 * WB + x) % y) := by rw [divL]
theorem divL_len (y : Nat) (xs : List Nat) : (divL y xs).1.length = xs.length := by
  induction xs with
  | nil => rfl
  | cons x r ih => rw [divL_cons]; simp [ih]
theorem divL_val (y : Nat) (xs : List Nat) : val (divL y xs).1 * y + (divL y xs).2 = val xs := by
  induction xs with
  | nil => simp [divL, val_nil]
  | cons x r ih =>
    rw [divL_cons]
    simp only [val_cons]
    have hd := Nat.div_add_mod ((divL y r).2 * WB + x) y
    rw [Nat.add_mul, ← ih, Nat.mul_add, Nat.mul_assoc WB]
    have e1 : ((divL y r).2 * WB + x) / y * y = y * (((divL y r).2 * WB + x) / y) := Nat.mul_comm _ _
    have e2 : WB * (divL y r).2 = (divL y r).2 * WB := Nat.mul_comm _ _
    omega
theorem divL_rem {y : Nat} (hy : 0 < y) (xs : List Nat) : (divL y xs).2 < y := by
  cases xs with
  | nil => exact hy
  | cons x r => rw [divL_cons]; exact Nat.mod_lt _ hy
theorem divL_q {r x y : Nat} (hr : r < y) (hx : x < WB) : (r * WB + x) / y < WB := by
  rw [Nat.div_lt_iff_lt_mul (by omega)]
  have : (r + 1) * WB ≤ y * WB := Nat.mul_le_mul_right _ hr
  rw [Nat.mul_comm WB y]
  rw [Nat.add_mul] at this
  omega
theorem divL_ws {y : Nat} (hy : 0 < y) {xs : List Nat} (h : Ws xs) : Ws (divL y xs).1 := by
  induction xs with
  | nil => exact Ws.nil
  | cons x r ih => rw [divL_cons]; exact Ws.mk (divL_q (divL_rem hy r) h.cons.1) (ih h.cons.2)
theorem divL_eq {y : Nat} (hy : 0 < y) (xs : List Nat) : val (divL y xs).1 = val xs / y ∧ (divL y xs).2 = val xs % y := by
  have h := divL_val y xs
  have hr := divL_rem hy xs
  rw [← h]
  constructor
  · rw [Nat.mul_comm, Nat.mul_add_div hy, Nat.div_eq_of_lt hr]; omega
  · rw [Nat.mul_comm, Nat.mul_add_mod, Nat.mod_eq_of_lt hr]

end Go.Proofs.Mv

/- Plain law of a division of two words by one by a reciprocal; no Go. -/
namespace Go.Proofs.Mv

def recip (d : Nat) : Nat := (WB * WB - 1) / d - WB

theorem recip_props {d : Nat} (hd' : d < WB) (h0 : 0 < d) : (recip d + WB) * d ≤ WB * WB - 1 ∧ WB * WB ≤ (recip d + WB) * d + d := by
  have hge : WB ≤ (WB * WB - 1) / d := by
    rw [Nat.le_div_iff_mul_le h0]
    have : WB * d ≤ WB * (WB - 1) := Nat.mul_le_mul_left _ (by omega)
    have : WB * (WB - 1) + 1 ≤ WB * WB := by unfold WB; omega
    omega
  have e : recip d + WB = (WB * WB - 1) / d := by unfold recip; omega
  rw [e]
  have h := Nat.div_add_mod (WB * WB - 1) d
  have hm := Nat.mod_lt (WB * WB - 1) h0
  have hc : (WB * WB - 1) / d * d = d * ((WB * WB - 1) / d) := Nat.mul_comm _ _
  have : 0 < WB * WB := Nat.mul_pos WB_pos WB_pos
  omega

theorem recip_lt {d : Nat} (hd : WB ≤ 2 * d) (hd' : d < WB) : recip d < WB := by
  have h := (recip_props hd' (by have := WB_pos; omega)).1
  by_cases hc : recip d < WB
  · exact hc
  · exfalso
    have h1 : (WB + WB) * d ≤ (recip d + WB) * d := Nat.mul_le_mul_right _ (by omega)
    have h2 : WB * WB ≤ WB * (2 * d) := Nat.mul_le_mul_left _ hd
    have h3 : (WB + WB) * d = WB * (2 * d) := by rw [← Nat.two_mul, Nat.mul_comm 2 WB, Nat.mul_assoc]
    have h4 : 0 < WB * WB := Nat.mul_pos WB_pos WB_pos
    omega

def qguess (d x1 x0 : Nat) : Nat := (recip d * x1 + x0) / WB + x1

theorem qguess_props {d x1 x0 : Nat} (hd' : d < WB) (hx : x1 < d) (h0 : x0 < WB) :
    d * qguess d x1 x0 ≤ x1 * WB + x0 ∧ x1 * WB + x0 < d * qguess d x1 x0 + (WB + d) := by
  obtain ⟨p1, p2⟩ := recip_props hd' (by omega)
  have hB := WB_pos
  have hq : qguess d x1 x0 = ((recip d + WB) * x1 + x0) / WB := by
    unfold qguess
    rw [Nat.add_mul, show recip d * x1 + WB * x1 + x0 = recip d * x1 + x0 + WB * x1 by omega, Nat.add_mul_div_left _ _ hB]
  rw [hq]
  generalize recip d + WB = M at *
  have hdm := Nat.div_add_mod (M * x1 + x0) WB
  have hml := Nat.mod_lt (M * x1 + x0) hB
  generalize (M * x1 + x0) / WB = q at *
  generalize (M * x1 + x0) % WB = e at *
  -- WB * q + e = M * x1 + x0
  have k1 : d * (WB * q) + d * e = M * d * x1 + d * x0 := by
    rw [← Nat.mul_add, hdm, Nat.mul_add, ← Nat.mul_assoc, Nat.mul_comm d M]
  have k2 : M * d * x1 + x1 ≤ WB * WB * x1 := by
    have : (M * d + 1) * x1 ≤ WB * WB * x1 := Nat.mul_le_mul_right _ (by have : 0 < WB * WB := Nat.mul_pos hB hB; omega)
    rw [Nat.add_mul, Nat.one_mul] at this; exact this
  have k3 : WB * WB * x1 ≤ M * d * x1 + d * x1 := by
    have : WB * WB * x1 ≤ (M * d + d) * x1 := Nat.mul_le_mul_right _ p2
    rw [Nat.add_mul] at this; exact this
  have k4 : d * x0 ≤ WB * x0 := Nat.mul_le_mul_right _ (by omega)
  have e1 : d * (WB * q) = WB * (d * q) := by rw [← Nat.mul_assoc, Nat.mul_comm d WB, Nat.mul_assoc]
  have e2 : WB * WB * x1 = WB * (x1 * WB) := by rw [Nat.mul_assoc, Nat.mul_comm WB x1]
  refine ⟨?_, ?_⟩
  · refine Nat.le_of_mul_le_mul_left ?_ hB
    rw [Nat.mul_add]
    omega
  · refine Nat.lt_of_mul_lt_mul_left (a := WB) ?_
    rw [Nat.mul_add, Nat.mul_add, Nat.mul_add]
    -- WB*(x1*WB) + WB*x0 < WB*(d*q) + (WB*WB + WB*d)
    have m1 : d * x1 ≤ d * (d - 1) := Nat.mul_le_mul_left _ (by omega)
    have m2 : d * e ≤ d * (WB - 1) := Nat.mul_le_mul_left _ (by omega)
    have m3 : (WB - d) * x0 ≤ (WB - d) * (WB - 1) := Nat.mul_le_mul_left _ (by omega)
    have m4 : WB * x0 = (WB - d) * x0 + d * x0 := by rw [← Nat.add_mul]; congr 1; omega
    have m5 : (WB - d) * (WB - 1) + d * (WB - 1) = WB * (WB - 1) := by rw [← Nat.add_mul]; congr 1; omega
    have m6 : d * (d - 1) ≤ WB * d := by rw [Nat.mul_comm WB d]; exact Nat.mul_le_mul_left _ (by omega)
    have m7 : WB * (WB - 1) + WB = WB * WB := by unfold WB; omega
    omega

/-- What is left of the guess is put right by two steps. -/
theorem div_fix {d q x : Nat} (hd : WB ≤ 2 * d) (_hd2 : d < WB) (h1 : d * q ≤ x) (h2 : x < d * q + (WB + d)) :
    let r := x - d * q
    (r < WB → r < d → x / d = q ∧ x % d = r) ∧ (r < WB → d ≤ r → x / d = q + 1 ∧ x % d = r - d) ∧
    (WB ≤ r → r - d < d → x / d = q + 1 ∧ x % d = r - d) ∧ (WB ≤ r → d ≤ r - d → x / d = q + 2 ∧ x % d = r - d - d) := by
  intro r
  have hB := WB_pos
  have hd0 : 0 < d := by omega
  have key : ∀ k s, s < d → x = d * k + s → x / d = k ∧ x % d = s := by
    intro k s hs e
    subst e
    exact ⟨by rw [Nat.mul_add_div hd0, Nat.div_eq_of_lt hs]; omega, by rw [Nat.mul_add_mod, Nat.mod_eq_of_lt hs]⟩
  have e1 : d * (q + 1) = d * q + d := by rw [Nat.mul_add]; omega
  have e2 : d * (q + 2) = d * q + d + d := by rw [Nat.mul_add]; omega
  refine ⟨fun _ h => key _ _ h (by omega), fun _ h => key _ _ (by omega) (by omega), fun _ h => key _ _ h (by omega), fun _ h => key _ _ (by omega) (by omega)⟩

end Go.Proofs.Mv

/- Plain laws of digits of fixed number, for the printing of numbers; no Go. -/
namespace Go.Proofs.Mv

theorem fixd_mod_le {a k : Nat} (h : a ≤ k) (n : Nat) : fixd a (n % 10 ^ k) = fixd a n := by
  rw [← fixd_mod a (n % 10 ^ k), ← fixd_mod a n]
  congr 1
  obtain ⟨b, rfl⟩ : ∃ b, k = a + b := ⟨k - a, by omega⟩
  rw [Nat.pow_add]
  exact Nat.mod_mod_of_dvd _ (Nat.dvd_mul_right _ _)

theorem fixd_zero (k : Nat) : fixd k 0 = List.replicate k 48 := by
  induction k with
  | zero => rfl
  | succ k ih => rw [fixd, show (0 : Nat) / 10 = 0 from rfl, ih, List.replicate_succ']; rfl

theorem dropWhile_replicate (k : Nat) (t : Bs) : (List.replicate k 48 ++ t).dropWhile (· = 48) = t.dropWhile (· = 48) := by
  induction k with
  | zero => simp
  | succ k ih => rw [List.replicate_succ, List.cons_append, List.dropWhile_cons_of_pos (by simp), ih]

theorem strip_dropWhile (s : Bs) (h : ∃ c ∈ s, c ≠ 48) : strip s = s.dropWhile (· = 48) := by
  induction s with
  | nil => obtain ⟨c, hc, _⟩ := h; simp at hc
  | cons a r ih =>
    cases r with
    | nil =>
      obtain ⟨c, hc, hn⟩ := h
      simp only [List.mem_singleton] at hc
      subst hc
      simp [strip, hn]
    | cons b r =>
      rw [strip]
      by_cases ha : a = 48
      · rw [if_pos ha, List.dropWhile_cons_of_pos (by simp [ha])]
        refine ih ?_
        obtain ⟨c, hc, hn⟩ := h
        rcases List.mem_cons.1 hc with rfl | hc
        · exact absurd ha hn
        · exact ⟨c, hc, hn⟩
      · rw [if_neg ha, List.dropWhile_cons_of_neg (by simp [ha])]

theorem dval_zeros (s : Bs) (h : ∀ c ∈ s, c = 48) : dval s = 0 := by
  have : s = List.replicate s.length 48 := List.eq_replicate_iff.2 ⟨rfl, h⟩
  rw [this, ← fixd_zero, dval_fixd]; simp

/-- The digits of a number that is not 0, in a row that is long enough, the zeros ahead left out. -/
theorem drop_fixd {k n : Nat} (hn : n < 10 ^ k) (h0 : n ≠ 0) : (fixd k n).dropWhile (· = 48) = dec n := by
  have hv : dval (fixd k n) = n := by rw [dval_fixd, Nat.mod_eq_of_lt hn]
  have hex : ∃ c ∈ fixd k n, c ≠ 48 := by
    by_cases h : ∃ c ∈ fixd k n, c ≠ 48
    · exact h
    · exfalso
      apply h0
      rw [← hv]
      exact dval_zeros _ fun c hc => by
        by_cases e : c = 48
        · exact e
        · exact absurd ⟨c, hc, e⟩ h
  have hne : fixd k n ≠ [] := by
    intro h
    obtain ⟨c, hc, _⟩ := hex
    rw [h] at hc; simp at hc
  rw [← strip_dropWhile _ hex, strip_dec _ hne (fixd_dig k n), hv]

/-- One chunk more of a row of digits, written from its end on. -/
theorem fixd_chunk (n b a k : Nat) (ha : a ≤ k) : fixd a (n / 10 ^ b % 10 ^ k) ++ fixd b n = fixd (a + b) n := by
  rw [fixd_mod_le ha, fixd_add]
theorem fixd_done {n b : Nat} (h : n < 10 ^ b) (a : Nat) : List.replicate a 48 ++ fixd b n = fixd (a + b) n := by
  rw [fixd_add, Nat.div_eq_of_lt h, fixd_zero]
theorem fixd_split (a b n : Nat) : fixd (a + b) n = fixd a (n / 10 ^ b) ++ fixd b (n % 10 ^ b) := by
  rw [fixd_add, fixd_mod]

end Go.Proofs.Mv

/- Plain laws of long division: a guess of three digits by two is at most one too great; no Go. -/
namespace Go.Proofs.Mv

/-- The guess is not above the quotient by more than one. -/
theorem guess_hi {P V2 vlow ulow U3 q : Nat} (hv : vlow < P) (h : q * V2 ≤ U3) (hq : q ≤ V2 + 1) (hV : 0 < vlow + P * V2) :
    q ≤ (ulow + P * U3) / (vlow + P * V2) + 1 := by
  cases q with
  | zero => exact Nat.zero_le _
  | succ k =>
    have hk : k ≤ (ulow + P * U3) / (vlow + P * V2) := by
      rw [Nat.le_div_iff_mul_le hV]
      have h1 : k * (vlow + P * V2) ≤ k * (P * (V2 + 1)) := Nat.mul_le_mul_left _ (by rw [Nat.mul_add]; omega)
      have h2 : k * (P * (V2 + 1)) = P * (k * V2 + k) := by rw [← Nat.mul_assoc, Nat.mul_comm k P, Nat.mul_assoc, Nat.mul_add, Nat.mul_one]
      have h3 : P * (k * V2 + k) ≤ P * U3 := Nat.mul_le_mul_left _ (by rw [Nat.add_mul, Nat.one_mul] at h; omega)
      omega
    omega
/-- A guess whose next is too great for the leading digits is not below the quotient. -/
theorem guess_lo {P V2 vlow ulow U3 q : Nat} (hu : ulow < P) (h : U3 < (q + 1) * V2) (hV : 0 < vlow + P * V2) : (ulow + P * U3) / (vlow + P * V2) ≤ q := by
  have : (ulow + P * U3) / (vlow + P * V2) < q + 1 := by
    rw [Nat.div_lt_iff_lt_mul hV]
    have h1 : P * (U3 + 1) ≤ P * ((q + 1) * V2) := Nat.mul_le_mul_left _ h
    have h2 : P * ((q + 1) * V2) = (q + 1) * (P * V2) := by rw [Nat.mul_left_comm]
    have h3 : (q + 1) * (P * V2) ≤ (q + 1) * (vlow + P * V2) := Nat.mul_le_mul_left _ (by omega)
    rw [Nat.mul_add, Nat.mul_one] at h1
    omega
  omega
/-- Where the leading digits are equal, the greatest digit is at most one too great. -/
theorem guess_max {B P v1 v2 vlow ulow u1 u2 : Nat} (hB : B ≤ 2 * v1) (h2 : v2 < B) (hv : vlow < P) (hB2 : 2 ≤ B) (hlt : ulow + P * (u2 + B * (u1 + B * v1)) < B * (vlow + P * (v2 + B * v1))) (hV : 0 < vlow + P * (v2 + B * v1)) :
    (ulow + P * (u2 + B * (u1 + B * v1))) / (vlow + P * (v2 + B * v1)) ≤ B - 1 ∧ B - 1 ≤ (ulow + P * (u2 + B * (u1 + B * v1))) / (vlow + P * (v2 + B * v1)) + 1 := by
  constructor
  · have : (ulow + P * (u2 + B * (u1 + B * v1))) / (vlow + P * (v2 + B * v1)) < B := by rw [Nat.div_lt_iff_lt_mul hV]; exact hlt
    omega
  · have : B - 2 ≤ (ulow + P * (u2 + B * (u1 + B * v1))) / (vlow + P * (v2 + B * v1)) := by
      rw [Nat.le_div_iff_mul_le hV]
      obtain ⟨C, rfl⟩ : ∃ C, B = C + 2 := ⟨B - 2, by omega⟩
      rw [show C + 2 - 2 = C by omega]
      have h1 : vlow + P * (v2 + (C + 2) * v1) ≤ P * ((C + 2) * (v1 + 1)) := by
        have : P * (v2 + 1 + (C + 2) * v1) ≤ P * ((C + 2) * (v1 + 1)) := Nat.mul_le_mul_left _ (by rw [Nat.mul_add]; omega)
        have e : P * (v2 + 1 + (C + 2) * v1) = P * (v2 + (C + 2) * v1) + P := by rw [show v2 + 1 + (C + 2) * v1 = v2 + (C + 2) * v1 + 1 by omega, Nat.mul_add, Nat.mul_one]
        omega
      have h3 : C * (P * ((C + 2) * (v1 + 1))) = P * ((C + 2) * (C * (v1 + 1))) := by
        rw [Nat.mul_left_comm C P, Nat.mul_left_comm C (C + 2)]
      have h4 : C * (v1 + 1) ≤ (C + 2) * v1 := by rw [Nat.mul_add, Nat.add_mul]; omega
      have h5 : P * ((C + 2) * (C * (v1 + 1))) ≤ P * (u2 + (C + 2) * (u1 + (C + 2) * v1)) := by
        refine Nat.mul_le_mul_left _ ?_
        have := Nat.mul_le_mul_left (C + 2) (show C * (v1 + 1) ≤ u1 + (C + 2) * v1 by omega)
        omega
      have h6 := Nat.mul_le_mul_left C h1
      omega
    omega
/-- A guess that is right or one too great, mended. -/
theorem guess_fix {U V q : Nat} (hV : 0 < V) (h1 : U / V ≤ q) (h2 : q ≤ U / V + 1) :
    (q * V ≤ U → U / V = q ∧ U % V = U - q * V) ∧ (U < q * V → U / V = q - 1 ∧ 1 ≤ q ∧ U % V = U + V - q * V) := by
  have hd := Nat.div_add_mod U V
  have hm := Nat.mod_lt U hV
  rw [Nat.mul_comm] at hd
  generalize hQ : U / V = Q at *
  generalize U % V = R at *
  constructor
  · intro h
    have : q ≤ Q := by rw [← hQ, Nat.le_div_iff_mul_le hV]; exact h
    obtain rfl : q = Q := by omega
    exact ⟨rfl, by omega⟩
  · intro h
    have : Q < q := by rw [← hQ, Nat.div_lt_iff_lt_mul hV]; exact h
    obtain rfl : q = Q + 1 := by omega
    refine ⟨by omega, by omega, ?_⟩
    rw [Nat.add_mul, Nat.one_mul]
    omega
/-- The test of a refinement, in three digits by two. -/
theorem refine_test {B q v1 v2 rhat u0 u1 u2 : Nat} (h : q * v1 + rhat = u0 * B + u1) : (rhat * B + u2 < q * v2) ↔ (u2 + B * (u1 + B * u0) < q * (v2 + B * v1)) := by
  have e1 : q * (v2 + B * v1) = q * v2 + B * (q * v1) := by rw [Nat.mul_add, Nat.mul_left_comm]
  have e2 : B * (u1 + B * u0) = B * (q * v1) + B * rhat := by rw [← Nat.mul_add, h, Nat.mul_comm u0 B, Nat.add_comm]
  rw [e1, e2, Nat.mul_comm rhat B]
  omega
/-- What is added back. -/
theorem add_back {B n U V q t lo lo' k : Nat} (_hB : 0 < B) (hq : U < q * V) (hq2 : q * V ≤ U + V) (hVn : V ≤ B ^ n) (hs : lo + B ^ n * t + q * V = U + B ^ n * B) (ht : t < B) (ha : lo + V = lo' + k * B ^ n) (hl : lo' < B ^ n) (hk : k ≤ 1) :
    lo' = U + V - q * V ∧ (t + k) % B = 0 := by
  have hP : 0 < B ^ n := by omega
  -- lo' + B^n (t + k) = U + V - qV + B^n B
  have e : lo' + B ^ n * (t + k) = (U + V - q * V) + B ^ n * B := by
    rw [Nat.mul_add, Nat.mul_comm (B ^ n) k]; omega
  have hr : U + V - q * V < B ^ n := by omega
  have h1 : t + k = B := by
    have a1 : t + k ≤ B := by omega
    by_cases h : t + k = B
    · exact h
    · exfalso
      have h2 : t + k + 1 ≤ B := by omega
      have := Nat.mul_le_mul_left (B ^ n) h2
      rw [Nat.mul_add, Nat.mul_one] at this
      omega
  rw [h1] at e
  exact ⟨by omega, by rw [h1]; exact Nat.mod_self _⟩
end Go.Proofs.Mv
