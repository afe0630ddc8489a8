/- Plain laws of numbers as bytes: ten times and one digit more, and their order; no Go. -/
import Derived.Test.YtcehboopgjpfcaaGreatDoorPA
namespace Go.Proofs.Mv

/-- The value of bytes, the greatest first. -/
def bval : Bs → Nat
  | [] => 0
  | c :: r => c.toNat * 256 ^ r.length + bval r
theorem bval_lt : ∀ (s : Bs), bval s < 256 ^ s.length
  | [] => by decide
  | c :: r => by
    have h1 := bval_lt r
    have h2 : c.toNat < 256 := c.toNat_lt
    have h3 : (c.toNat + 1) * 256 ^ r.length ≤ 256 * 256 ^ r.length := Nat.mul_le_mul_right _ h2
    rw [Nat.add_mul, Nat.one_mul] at h3
    rw [bval, List.length_cons, Nat.pow_succ]; omega
theorem bval_lo {c : UInt8} {r : Bs} (h : c ≠ 0) : 256 ^ r.length ≤ bval (c :: r) := by
  have h1 : 1 ≤ c.toNat := by
    rcases Nat.eq_zero_or_pos c.toNat with h0 | h0
    · exact absurd (UInt8.toNat_inj.1 h0) h
    · exact h0
  have h2 : 1 * 256 ^ r.length ≤ c.toNat * 256 ^ r.length := Nat.mul_le_mul_right _ h1
  rw [bval]; omega
theorem bless_bytes : ∀ (a b : Bs), a.length = b.length → (bless a b = true ↔ bval a < bval b)
  | [], [], _ => by simp [bless]
  | [], _ :: _, h => by simp at h
  | _ :: _, [], h => by simp at h
  | x :: r, y :: s, h => by
    have hl : r.length = s.length := by simpa using h
    have ih := bless_bytes r s hl
    have h1 := bval_lt r
    have h2 := bval_lt s
    rw [bless, bval, bval, hl]
    rw [hl] at h1
    simp only [Bool.or_eq_true, decide_eq_true_eq, Bool.and_eq_true, beq_iff_eq]
    constructor
    · rintro (h3 | ⟨h3, h4⟩)
      · have h3 : x.toNat + 1 ≤ y.toNat := UInt8.lt_iff_toNat_lt.1 h3
        have h5 := Nat.mul_le_mul_right (256 ^ s.length) h3
        rw [Nat.add_mul, Nat.one_mul] at h5; omega
      · have := ih.1 h4
        rw [h3]; omega
    · intro h3
      rcases Nat.lt_trichotomy x.toNat y.toNat with h4 | h4 | h4
      · exact .inl (UInt8.lt_iff_toNat_lt.2 h4)
      · have e : x = y := UInt8.toNat_inj.1 h4
        subst e
        exact .inr ⟨rfl, ih.2 (by omega)⟩
      · exfalso
        have h5 := Nat.mul_le_mul_right (256 ^ s.length) (show y.toNat + 1 ≤ x.toNat from h4)
        rw [Nat.add_mul, Nat.one_mul] at h5; omega
/-- No zero first. -/
def Tidy (s : Bs) : Prop := s.head? ≠ some 0
def cmpMag (a b : Bs) : Int := if a.length ≠ b.length then cmpN a.length b.length else cmpB a b
theorem cmpMag_eq {a b : Bs} (ha : Tidy a) (hb : Tidy b) : cmpMag a b = cmpN (bval a) (bval b) := by
  have key : ∀ {a b : Bs}, Tidy b → a.length < b.length → bval a < bval b := by
    intro a b hb h
    cases b with
    | nil => simp at h
    | cons c r =>
      have h1 := bval_lt a
      have h2 := bval_lo (c := c) (r := r) (fun e => hb (by rw [e]; rfl))
      have : 256 ^ a.length ≤ 256 ^ r.length := Nat.pow_le_pow_right (by decide) (by simp at h; omega)
      omega
  unfold cmpMag
  by_cases hl : a.length ≠ b.length
  · rw [if_pos hl]
    unfold cmpN
    rcases Nat.lt_or_gt_of_ne hl with h | h
    · rw [if_pos h, if_pos (key hb h)]
    · have := key ha h
      rw [if_neg (by omega), if_pos h, if_neg (by omega), if_pos this]
  · have hl' : a.length = b.length := by omega
    rw [if_neg hl]
    have h1 := bless_bytes _ _ hl'
    have h2 := bless_bytes _ _ hl'.symm
    unfold cmpB cmpN
    by_cases h : bless a b = true
    · rw [if_pos h, if_pos (h1.1 h)]
    · rw [if_neg h, if_neg (fun e => h (h1.2 e))]
      by_cases h3 : bless b a = true
      · rw [if_pos h3, if_pos (h2.1 h3)]
      · rw [if_neg h3, if_neg (fun e => h3 (h2.2 e))]
/-! ### The lowest byte first -/
def lval : List Nat → Nat
  | [] => 0
  | x :: r => x + 256 * lval r
/-- Ten times, c more: the bytes and what is carried out. -/
def tenL : Nat → List Nat → List Nat × Nat
  | c, [] => ([], c)
  | c, x :: r => ((c + 10 * x) % 256 :: (tenL ((c + 10 * x) / 256) r).1, (tenL ((c + 10 * x) / 256) r).2)
def ten (c : Nat) (l : List Nat) : List Nat := if (tenL c l).2 = 0 then (tenL c l).1 else (tenL c l).1 ++ [(tenL c l).2]
theorem tenL_len : ∀ (l : List Nat) (c : Nat), (tenL c l).1.length = l.length
  | [], _ => rfl
  | x :: r, c => by rw [tenL]; simp [tenL_len r]
theorem tenL_step : ∀ (l : List Nat) (c : Nat) {k x : Nat}, l[k]? = some x →
    (tenL c (l.take (k + 1))).1 = (tenL c (l.take k)).1 ++ [((tenL c (l.take k)).2 + 10 * x) % 256] ∧ (tenL c (l.take (k + 1))).2 = ((tenL c (l.take k)).2 + 10 * x) / 256
  | [], _, _, _, h => by simp at h
  | y :: r, c, 0, x, h => by
    simp only [List.getElem?_cons_zero, Option.some.injEq] at h
    subst h
    simp [tenL]
  | y :: r, c, k + 1, x, h => by
    simp only [List.getElem?_cons_succ] at h
    have ih := tenL_step r ((c + 10 * y) / 256) h
    rw [List.take_succ_cons, List.take_succ_cons, tenL, tenL]
    exact ⟨by rw [ih.1]; rfl, ih.2⟩
theorem tenL_val : ∀ (l : List Nat) (c : Nat), lval (tenL c l).1 + 256 ^ l.length * (tenL c l).2 = 10 * lval l + c
  | [], c => by simp [tenL, lval]
  | x :: r, c => by
    have ih := tenL_val r ((c + 10 * x) / 256)
    have hd := Nat.div_add_mod (c + 10 * x) 256
    rw [tenL]
    simp only [lval, List.length_cons]
    have e1 : 256 ^ (r.length + 1) * (tenL ((c + 10 * x) / 256) r).2 = 256 * (256 ^ r.length * (tenL ((c + 10 * x) / 256) r).2) := by
      rw [Nat.pow_succ, Nat.mul_comm (256 ^ r.length) 256, Nat.mul_assoc]
    rw [e1]; omega
theorem lval_append : ∀ (a b : List Nat), lval (a ++ b) = lval a + 256 ^ a.length * lval b
  | [], b => by simp [lval]
  | x :: r, b => by
    rw [List.cons_append, lval, lval_append r b, lval, List.length_cons, Nat.pow_succ, Nat.mul_add, Nat.mul_comm (256 ^ r.length) 256, Nat.mul_assoc]; omega
theorem ten_val (c : Nat) (l : List Nat) : lval (ten c l) = 10 * lval l + c := by
  have h := tenL_val l c
  unfold ten
  split
  · next h0 => rw [h0] at h; omega
  · rw [lval_append, tenL_len, lval, lval]; omega
theorem tenL_lt : ∀ (l : List Nat) (c : Nat), (∀ x ∈ l, x < 256) → c < 10 → (∀ x ∈ (tenL c l).1, x < 256) ∧ (tenL c l).2 < 10
  | [], c, _, hc => ⟨fun _ h => by simp [tenL] at h, hc⟩
  | x :: r, c, h, hc => by
    have hx := h x (by simp)
    have ih := tenL_lt r ((c + 10 * x) / 256) (fun y hy => h y (by simp [hy])) (by omega)
    rw [tenL]
    exact ⟨fun y hy => by rcases List.mem_cons.1 hy with rfl | hy; exact Nat.mod_lt _ (by decide); exact ih.1 y hy, ih.2⟩
theorem ten_lt {c : Nat} {l : List Nat} (h : ∀ x ∈ l, x < 256) (hc : c < 10) : ∀ x ∈ ten c l, x < 256 := by
  have := tenL_lt l c h hc
  intro x hx
  unfold ten at hx
  split at hx
  · exact this.1 x hx
  · rcases List.mem_append.1 hx with hx | hx
    · exact this.1 x hx
    · simp at hx; subst hx; omega
/-- No zero at the top. -/
def Topped (l : List Nat) : Prop := l.getLast? ≠ some 0
theorem ten_topped {c : Nat} {l : List Nat} (hx : ∀ x ∈ l, x < 256) (h : Topped l) : Topped (ten c l) := by
  unfold ten
  split
  · next h0 =>
    rcases List.eq_nil_or_concat l with e | ⟨u, x, e⟩
    · subst e; simp [tenL, Topped]
    · rw [List.concat_eq_append] at e
      subst e
      have hk : (u ++ [x])[u.length]? = some x := by simp
      have hs := tenL_step (u ++ [x]) c hk
      rw [List.take_of_length_le (by simp)] at hs
      rw [hs.2] at h0
      have hx0 : x ≠ 0 := fun e => h (by simp [e])
      unfold Topped
      rw [hs.1, List.getLast?_concat]
      intro e
      injection e with e
      omega
  · next h0 => unfold Topped; rw [List.getLast?_concat]; intro e; injection e with e; exact h0 e
theorem ten_len (c : Nat) (l : List Nat) : (ten c l).length ≤ l.length + 1 := by
  unfold ten
  split
  · rw [tenL_len]; omega
  · rw [List.length_append, tenL_len]; simp
/-- The bytes of digits, the lowest first. -/
def magL : Bs → List Nat → List Nat
  | [], l => l
  | c :: r, l => magL r (ten (c.toNat - 48) l)
def magOf (q : Bs) : List Nat := magL q []
theorem magL_snoc (c : UInt8) : ∀ (q : Bs) (l : List Nat), magL (q ++ [c]) l = ten (c.toNat - 48) (magL q l)
  | [], _ => rfl
  | x :: r, l => by rw [List.cons_append, magL, magL_snoc c r, magL]
theorem magOf_snoc (q : Bs) (c : UInt8) : magOf (q ++ [c]) = ten (c.toNat - 48) (magOf q) := magL_snoc c q []
theorem mag_props : ∀ (n : Nat) (q : Bs), q.length = n → (∀ c ∈ q, isDig c = true) → lval (magOf q) = dval q ∧ (∀ x ∈ magOf q, x < 256) ∧ Topped (magOf q) ∧ (magOf q).length ≤ q.length
  | 0, q, hn, _ => by
    rw [List.eq_nil_of_length_eq_zero hn]
    exact ⟨rfl, fun _ h => by simp [magOf, magL] at h, by simp [magOf, magL, Topped], by simp [magOf, magL]⟩
  | n + 1, q, hn, hd => by
    rcases List.eq_nil_or_concat q with h | ⟨u, c, h⟩
    · rw [h] at hn; simp at hn
    · rw [List.concat_eq_append] at h
      subst h
      obtain ⟨i1, i2, i3, i4⟩ := mag_props n u (by simpa using hn) (fun z hz => hd z (by simp [hz]))
      have hc := (isDig_iff c).1 (hd c (by simp))
      rw [magOf_snoc]
      refine ⟨by rw [ten_val, dval_snoc, i1], ten_lt i2 (by omega), ten_topped i2 i3, ?_⟩
      have := ten_len (c.toNat - 48) (magOf u)
      rw [List.length_append]; simp; omega
/-- The same, the greatest first. -/
def bytesOf (q : Bs) : Bs := (magOf q).reverse.map UInt8.ofNat
theorem bval_rev : ∀ (l : List Nat), (∀ x ∈ l, x < 256) → bval (l.reverse.map UInt8.ofNat) = lval l
  | [], _ => rfl
  | x :: r, h => by
    have ih := bval_rev r (fun y hy => h y (by simp [hy]))
    have snoc : ∀ (s : Bs) (c : UInt8), bval (s ++ [c]) = 256 * bval s + c.toNat := by
      intro s c
      induction s with
      | nil => simp [bval]
      | cons a t ih2 =>
        rw [List.cons_append, bval, ih2, bval, List.length_append, List.length_singleton, Nat.pow_succ, Nat.mul_add]
        rw [← Nat.mul_assoc a.toNat, Nat.mul_comm (a.toNat * 256 ^ t.length) 256]; omega
    have hx := h x (by simp)
    rw [List.reverse_cons, List.map_append, List.map_cons, List.map_nil, snoc, ih, lval, UInt8.toNat_ofNat_of_lt' (by simpa using hx)]; omega
theorem bytesOf_props {q : Bs} (hd : ∀ c ∈ q, isDig c = true) : bval (bytesOf q) = dval q ∧ Tidy (bytesOf q) ∧ (bytesOf q).length ≤ q.length := by
  obtain ⟨h1, h2, h3, h4⟩ := mag_props q.length q rfl hd
  refine ⟨by rw [bytesOf, bval_rev _ h2, h1], ?_, by simp [bytesOf]; exact h4⟩
  unfold Tidy bytesOf
  rw [List.head?_map, List.head?_reverse]
  cases e : (magOf q).getLast? with
  | none => simp
  | some x =>
    simp only [Option.map_some, ne_eq, Option.some.injEq]
    intro h0
    have hx := h2 x (List.mem_of_getLast? e)
    have : x = 0 := by
      have := congrArg UInt8.toNat h0
      rwa [UInt8.toNat_ofNat_of_lt' (by simpa using hx)] at this
    exact h3 (by rw [e, this])
/-- Two numbers compare as their bytes. -/
theorem bytes_cmp {a b : Bs} (ha : ∀ c ∈ a, isDig c = true) (hb : ∀ c ∈ b, isDig c = true) : cmpMag (bytesOf a) (bytesOf b) = cmpN (dval a) (dval b) := by
  obtain ⟨a1, a2, _⟩ := bytesOf_props ha
  obtain ⟨b1, b2, _⟩ := bytesOf_props hb
  rw [cmpMag_eq a2 b2, a1, b1]
end Go.Proofs.Mv
