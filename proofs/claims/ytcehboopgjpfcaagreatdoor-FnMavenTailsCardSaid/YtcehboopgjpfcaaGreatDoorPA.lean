/- P1 P2 P3 P7 P8 P9 P10 P11 P12 in one text. -/

/- Plain functions on decimal texts and numbers; no Go. -/
namespace Go.Proofs.Mv

abbrev Bs := List UInt8
def isDig (c : UInt8) : Bool := 48 ≤ c && c ≤ 57
def allDig (s : Bs) : Bool := !s.isEmpty && s.all isDig
def low (c : UInt8) : UInt8 := if 65 ≤ c && c ≤ 90 then c + 32 else c
def strip : Bs → Bs
  | [] => []
  | [c] => [c]
  | c :: d :: r => if c = 48 then strip (d :: r) else c :: d :: r

/-- The value of digits, the number read so far ahead. -/
def dvalA (a : Nat) (s : Bs) : Nat := s.foldl (fun a c => 10 * a + (c.toNat - 48)) a
def dval (s : Bs) : Nat := dvalA 0 s
theorem dvalA_nil (a : Nat) : dvalA a [] = a := by simp only [dvalA, List.foldl]
theorem dvalA_cons (a : Nat) (c : UInt8) (r : Bs) : dvalA a (c :: r) = dvalA (10 * a + (c.toNat - 48)) r := by simp only [dvalA, List.foldl]
theorem dval_nil : dval [] = 0 := dvalA_nil 0
theorem dval_one (c : UInt8) : dval [c] = c.toNat - 48 := by rw [dval, dvalA_cons, dvalA_nil]; omega

theorem dvalA_append (s t : Bs) (a : Nat) : dvalA a (s ++ t) = dvalA (dvalA a s) t := by
  simp only [dvalA, List.foldl_append]

theorem dval_snoc (s : Bs) (c : UInt8) : dval (s ++ [c]) = 10 * dval s + (c.toNat - 48) := by
  rw [dval, dvalA_append, dvalA_cons, dvalA_nil]; rfl

theorem dvalA_lin (s : Bs) : ∀ a, dvalA a s = a * 10 ^ s.length + dval s := by
  induction s with
  | nil => intro a; rw [dvalA_nil, dval_nil]; simp
  | cons c r ih =>
    intro a
    have h1 := ih (10 * a + (c.toNat - 48))
    have h2 := ih (10 * 0 + (c.toNat - 48))
    have h3 : dval (c :: r) = dvalA (10 * 0 + (c.toNat - 48)) r := dvalA_cons _ _ _
    simp only [dvalA_cons, List.length_cons]
    rw [h1, h3, h2, Nat.pow_succ]
    have : (10 * a + (c.toNat - 48)) * 10 ^ r.length = a * (10 ^ r.length * 10) + (10 * 0 + (c.toNat - 48)) * 10 ^ r.length := by
      rw [Nat.add_mul, Nat.mul_zero, Nat.zero_add, Nat.mul_comm 10 a, Nat.mul_assoc, Nat.mul_comm 10 (10 ^ r.length)]
    omega

/-- A number's digits, none ahead that is 0. -/
def dec (n : Nat) : Bs := if h : n < 10 then [UInt8.ofNat (48 + n)] else dec (n / 10) ++ [UInt8.ofNat (48 + n % 10)]
termination_by n

theorem dec_lt {n : Nat} (h : n < 10) : dec n = [UInt8.ofNat (48 + n)] := by rw [dec, dif_pos h]
theorem dec_ge {n : Nat} (h : ¬ n < 10) : dec n = dec (n / 10) ++ [UInt8.ofNat (48 + n % 10)] := by rw [dec, dif_neg h]
theorem dec_ne_nil (n : Nat) : dec n ≠ [] := by
  by_cases h : n < 10
  · rw [dec_lt h]; simp
  · rw [dec_ge h]; simp

theorem isDig_iff (c : UInt8) : isDig c = true ↔ 48 ≤ c.toNat ∧ c.toNat ≤ 57 := by
  simp [isDig, UInt8.le_iff_toNat_le]

theorem ofNat_sub {c : UInt8} (h : isDig c = true) : UInt8.ofNat (48 + (c.toNat - 48)) = c := by
  have := (isDig_iff c).1 h
  apply UInt8.toNat_inj.1
  rw [UInt8.toNat_ofNat']
  omega

theorem dec_digit {n : Nat} : (UInt8.ofNat (48 + n % 10)).toNat = 48 + n % 10 := by
  rw [UInt8.toNat_ofNat']; omega

theorem dec_dig (n : Nat) : ∀ c ∈ dec n, isDig c = true := by
  induction n using Nat.strongRecOn with
  | _ n ih =>
    intro c hc
    by_cases h : n < 10
    · rw [dec_lt h] at hc
      simp only [List.mem_singleton] at hc
      subst hc
      rw [isDig_iff, UInt8.toNat_ofNat']; omega
    · rw [dec_ge h] at hc
      rcases List.mem_append.1 hc with hc | hc
      · exact ih _ (by omega) c hc
      · simp only [List.mem_singleton] at hc
        subst hc
        rw [isDig_iff, dec_digit]; omega

theorem dval_dec (n : Nat) : dval (dec n) = n := by
  induction n using Nat.strongRecOn with
  | _ n ih =>
    by_cases h : n < 10
    · rw [dec_lt h]
      rw [dval_one, UInt8.toNat_ofNat']
      omega
    · rw [dec_ge h, dval_snoc, ih _ (by omega), dec_digit]; omega

theorem strip_snoc (s : Bs) (c : UInt8) (hs : s ≠ []) : strip (s ++ [c]) = if strip s = [48] then [c] else strip s ++ [c] := by
  induction s with
  | nil => exact absurd rfl hs
  | cons a r ih =>
    cases r with
    | nil =>
      simp only [List.cons_append, List.nil_append, strip]
      by_cases h : a = 48 <;> simp [h]
    | cons b r =>
      simp only [List.cons_append, strip]
      by_cases h : a = 48
      · simp only [h, if_true]
        have := ih (by simp)
        simp only [List.cons_append] at this
        exact this
      · simp only [h, if_false]
        simp

theorem dec_head {n : Nat} : dec n = [48] ↔ n = 0 := by
  constructor
  · intro h
    have := dval_dec n
    rw [h] at this
    rw [dval_one] at this; simpa using this.symm
  · rintro rfl; rw [dec_lt (by omega)]; rfl

/-- Digits without the zeros ahead are their number's digits. -/
theorem strip_dec (s : Bs) (hs : s ≠ []) (hd : ∀ c ∈ s, isDig c = true) : strip s = dec (dval s) := by
  obtain ⟨n, hn⟩ : ∃ n, s.length = n := ⟨_, rfl⟩
  induction n generalizing s with
  | zero => exact absurd (List.eq_nil_of_length_eq_zero hn) hs
  | succ n ih =>
    rcases List.eq_nil_or_concat s with h | ⟨t, c, h⟩
    · exact absurd h hs
    · rw [List.concat_eq_append] at h
      subst h
      have hc : isDig c = true := hd c (by simp)
      have hcb := (isDig_iff c).1 hc
      by_cases ht : t = []
      · subst ht
        simp only [List.nil_append, strip]
        rw [dval_one, dec_lt (by omega), ofNat_sub hc]
      · rw [strip_snoc t c ht, ih t ht (fun x hx => hd x (by simp [hx])) (by simp at hn; omega), dval_snoc]
        by_cases h0 : dval t = 0
        · rw [if_pos (dec_head.2 h0), h0, dec_lt (by omega)]
          simp only [Nat.mul_zero, Nat.zero_add]
          rw [ofNat_sub hc]
        · rw [if_neg (fun h => h0 (dec_head.1 h)), dec_ge (n := 10 * dval t + (c.toNat - 48)) (by omega)]
          rw [show (10 * dval t + (c.toNat - 48)) / 10 = dval t by omega, show (10 * dval t + (c.toNat - 48)) % 10 = c.toNat - 48 by omega, ofNat_sub hc]

theorem strip_idem (s : Bs) (hs : s ≠ []) (hd : ∀ c ∈ s, isDig c = true) : strip (strip s) = strip s := by
  rw [strip_dec s hs hd, strip_dec _ (dec_ne_nil _) (dec_dig _), dval_dec]

theorem dval_strip (s : Bs) (hs : s ≠ []) (hd : ∀ c ∈ s, isDig c = true) : dval (strip s) = dval s := by
  rw [strip_dec s hs hd, dval_dec]

/-- k digits, zeros ahead. -/
def fixd : Nat → Nat → Bs
  | 0, _ => []
  | k + 1, n => fixd k (n / 10) ++ [UInt8.ofNat (48 + n % 10)]

theorem fixd_length (k : Nat) : ∀ n, (fixd k n).length = k := by
  induction k with
  | zero => intro n; rfl
  | succ k ih => intro n; simp [fixd, ih]

theorem fixd_dig (k : Nat) : ∀ n, ∀ c ∈ fixd k n, isDig c = true := by
  induction k with
  | zero => intro n c hc; simp [fixd] at hc
  | succ k ih =>
    intro n c hc
    simp only [fixd, List.mem_append, List.mem_singleton] at hc
    rcases hc with hc | rfl
    · exact ih _ _ hc
    · rw [isDig_iff, dec_digit]; omega

theorem dval_fixd (k : Nat) : ∀ n, dval (fixd k n) = n % 10 ^ k := by
  induction k with
  | zero => intro n; rw [fixd, dval_nil]; simp [Nat.mod_one]
  | succ k ih =>
    intro n
    rw [fixd, dval_snoc, ih, dec_digit, Nat.pow_succ, Nat.mul_comm (10 ^ k) 10, Nat.mod_mul]
    omega

theorem fixd_add (a b : Nat) : ∀ n, fixd (a + b) n = fixd a (n / 10 ^ b) ++ fixd b n := by
  induction b with
  | zero => intro n; simp [fixd]
  | succ b ih =>
    intro n
    rw [Nat.add_succ, fixd, fixd, ih, ← List.append_assoc, Nat.div_div_eq_div_mul, Nat.pow_succ, Nat.mul_comm (10 ^ b) 10]

theorem fixd_mod (k : Nat) : ∀ n, fixd k (n % 10 ^ k) = fixd k n := by
  induction k with
  | zero => intro n; rfl
  | succ k ih =>
    intro n
    rw [fixd, fixd, ← ih (n / 10), ← ih (n % 10 ^ (k + 1) / 10)]
    have h1 : n % 10 ^ (k + 1) % 10 = n % 10 := by
      rw [Nat.pow_succ]; exact Nat.mod_mod_of_dvd _ (Nat.dvd_mul_left _ _)
    have h2 : n % 10 ^ (k + 1) / 10 = n / 10 % 10 ^ k := by
      rw [Nat.pow_succ, Nat.mul_comm, Nat.mod_mul_right_div_self]
    rw [h1, h2, Nat.mod_mod]

end Go.Proofs.Mv

/- Plain functions on Maven versions: tokens; no Go. -/
namespace Go.Proofs.Mv

def isMark (c : UInt8) : Bool := c = 45 || c = 46
def lower (s : Bs) : Bs := s.map low
def sAlpha : Bs := [97, 108, 112, 104, 97]
def sBeta : Bs := [98, 101, 116, 97]
def sMile : Bs := [109, 105, 108, 101, 115, 116, 111, 110, 101]
def sRc : Bs := [114, 99]
def sCr : Bs := [99, 114]
def sSnap : Bs := [115, 110, 97, 112, 115, 104, 111, 116]
def sSp : Bs := [115, 112]
def sGa : Bs := [103, 97]
def sFinal : Bs := [102, 105, 110, 97, 108]
def sRelease : Bs := [114, 101, 108, 101, 97, 115, 101]

structure Tok where
  p : Bs
  v : Bs
  n : Bool
deriving DecidableEq

/-- A piece's value: the piece in small letters; is a piece behind it in the same raw token? -/
def nv (s : Bs) (more : Bool) : Bs :=
  if s = [] then [48] else if allDig s = true then strip s else if s = sCr then sRc
  else if s = sGa ∨ s = sFinal ∨ s = sRelease then []
  else if more = true ∧ s = [97] then sAlpha else if more = true ∧ s = [98] then sBeta else if more = true ∧ s = [109] then sMile else s

/-- The raw tokens with the marks between them. -/
def splitI : Bs → List Bs
  | [] => [[]]
  | c :: r => if isMark c = true then [] :: [c] :: splitI r else
    match splitI r with
    | h :: t => (c :: h) :: t
    | [] => [[c]]

/-- Where a digit and another byte meet. -/
def transA (i : Nat) : Bs → List Nat
  | [] => []
  | a :: r => match r with
    | [] => []
    | b :: _ => if isDig a = isDig b then transA (i + 1) r else (i + 1) :: transA (i + 1) r

/-- The tokens of one raw token, from its cuts. -/
def ptok (r : Bs) (pre : Bs) (prev : Nat) : List Nat → List Tok
  | [] => []
  | t :: ts => ⟨pre, nv (lower ((r.drop prev).take (t - prev))) (t != r.length), false⟩ :: ptok r [45] t ts

def rtok (r : Bs) (pre : Bs) : List Tok := ptok r pre 0 (transA 0 r ++ [r.length])

/-- The tokens of raw tokens with their marks. -/
def tokR (pre : Bs) : List Bs → List Tok
  | [] => []
  | r :: rest => match rest with
    | [] => rtok r pre
    | d :: more => rtok r pre ++ tokR d more
termination_by l => l.length

/-- The same, byte by byte. -/
def tokL (pre cur : Bs) : Bs → List Tok
  | [] => [⟨pre, nv cur false, false⟩]
  | c :: r =>
    if isMark c = true then ⟨pre, nv cur false, false⟩ :: tokL [c] [] r
    else if cur ≠ [] ∧ isDig (cur.getLastD 0) ≠ isDig c then ⟨pre, nv cur true, false⟩ :: tokL [45] [c] r
    else tokL pre (cur ++ [c]) r

theorem isDig_low (c : UInt8) : isDig (low c) = isDig c := by
  unfold low
  split
  · rename_i h
    simp only [Bool.and_eq_true, decide_eq_true_eq, UInt8.le_iff_toNat_le] at h
    have h1 : (65 : UInt8).toNat = 65 := rfl
    have h2 : (90 : UInt8).toNat = 90 := rfl
    rw [h1, h2] at h
    have e : (c + 32).toNat = c.toNat + 32 := by rw [UInt8.toNat_add]; have : (32 : UInt8).toNat = 32 := rfl; omega
    rw [Bool.eq_iff_iff, isDig_iff, isDig_iff, e]; omega
  · rfl

theorem isMark_iff (c : UInt8) : isMark c = true ↔ c.toNat = 45 ∨ c.toNat = 46 := by
  simp only [isMark, Bool.or_eq_true, decide_eq_true_eq, ← UInt8.toNat_inj]
  rfl

theorem isMark_low (c : UInt8) : isMark (low c) = isMark c := by
  unfold low
  split
  · rename_i h
    simp only [Bool.and_eq_true, decide_eq_true_eq, UInt8.le_iff_toNat_le] at h
    have h1 : (65 : UInt8).toNat = 65 := rfl
    have h2 : (90 : UInt8).toNat = 90 := rfl
    rw [h1, h2] at h
    have e : (c + 32).toNat = c.toNat + 32 := by rw [UInt8.toNat_add]; have : (32 : UInt8).toNat = 32 := rfl; omega
    rw [Bool.eq_iff_iff, isMark_iff, isMark_iff, e]; omega
  · rfl

theorem low_mark {c : UInt8} (h : isMark c = true) : low c = c := by
  have := (isMark_iff c).1 h
  unfold low
  rw [if_neg]
  simp only [Bool.and_eq_true, decide_eq_true_eq, UInt8.le_iff_toNat_le]
  have h1 : (65 : UInt8).toNat = 65 := rfl
  omega

theorem lower_append (a b : Bs) : lower (a ++ b) = lower a ++ lower b := by simp [lower]

theorem splitI_ne (s : Bs) : splitI s ≠ [] := by
  cases s with
  | nil => simp [splitI]
  | cons c r =>
    unfold splitI
    split
    · simp
    · split <;> simp

/-- A raw token that has no mark, byte by byte. -/
theorem ptok_tokL (done : Bs) : ∀ (rest cur : Bs) (pre : Bs), cur ≠ [] → (∀ c ∈ rest, isMark c = false) →
    ptok (done ++ cur ++ rest) pre done.length (transA (done.length + cur.length - 1) (cur.getLastD 0 :: rest) ++ [(done ++ cur ++ rest).length]) = tokL pre (lower cur) (lower rest) := by
  intro rest
  induction rest generalizing done with
  | nil =>
    intro cur pre hcur _
    simp only [transA, List.nil_append, ptok, lower, List.map_nil, tokL, List.append_nil]
    congr 2
    · congr 1
      · rw [List.drop_left' rfl, List.take_of_length_le (by simp)]
      · simp
  | cons c r ih =>
    intro cur pre hcur hm
    have hc : isMark c = false := hm c (by simp)
    have hr : ∀ x ∈ r, isMark x = false := fun x hx => hm x (by simp [hx])
    have hcl : 0 < cur.length := List.length_pos_iff.2 hcur
    have hlast : isDig ((lower cur).getLastD 0) = isDig (cur.getLastD 0) := by
      rcases List.eq_nil_or_concat cur with h | ⟨l, x, h⟩
      · exact absurd h hcur
      · rw [List.concat_eq_append] at h
        subst h
        simp [lower, isDig_low]
    have hne : lower cur ≠ [] := by simpa [lower] using hcur
    rw [show lower (c :: r) = low c :: lower r from rfl]
    rw [transA, tokL, isMark_low, hc]
    simp only [Bool.false_eq_true, if_false, hlast, isDig_low]
    by_cases hd : isDig (cur.getLastD 0) = isDig c
    · rw [if_pos hd, if_neg (fun h => h.2 hd)]
      have := ih done (cur ++ [c]) pre (by simp) hr
      simp only [List.length_append, List.length_singleton, List.getLastD_concat] at this
      rw [lower_append] at this
      rw [← show lower cur ++ lower [c] = lower cur ++ [low c] from rfl, ← this]
      simp only [List.append_assoc, List.singleton_append, List.length_append, List.length_cons]
      congr 2
      · congr 1
        omega
      · congr 1
        omega
    · rw [if_neg hd, if_pos ⟨hne, hd⟩]
      simp only [List.cons_append, ptok]
      have := ih (done ++ cur) [c] [45] (by simp) hr
      simp only [List.length_append, List.length_singleton, List.getLastD_cons, List.getLastD_nil] at this
      have e1 : done.length + cur.length - 1 + 1 = done.length + cur.length := by omega
      rw [e1]
      congr 2
      · congr 1
        · rw [List.append_assoc, List.drop_left' rfl, List.take_left' (by omega)]
        · have : (done ++ cur ++ c :: r).length = done.length + cur.length + (r.length + 1) := by simp; omega
          simp only [bne_iff_ne, ne_eq, this]
          omega
      · rw [show lower [c] = [low c] from rfl] at this
        rw [← this]
        have e2 : done ++ cur ++ [c] ++ r = done ++ cur ++ c :: r := by simp
        rw [e2]
        congr 2
        congr 1
        simp
        omega

theorem rtok_tokL (r pre : Bs) (hm : ∀ c ∈ r, isMark c = false) : rtok r pre = tokL pre [] (lower r) := by
  cases r with
  | nil => simp [rtok, transA, ptok, lower, tokL]
  | cons c r =>
    have := ptok_tokL [] r [c] pre (by simp) (fun x hx => hm x (by simp [hx]))
    simp only [List.nil_append, List.length_nil, List.length_singleton, Nat.zero_add, Nat.sub_self, List.getLastD_cons, List.getLastD_nil, List.singleton_append] at this
    rw [rtok, this]
    rw [show lower (c :: r) = low c :: lower r from rfl, tokL, isMark_low, hm c (by simp)]
    simp
    rfl

theorem tokL_mark (pre cur r : Bs) (d : UInt8) (rest : Bs) (hr : ∀ c ∈ r, isMark c = false) (hd : isMark d = true) :
    tokL pre cur (r ++ d :: rest) = tokL pre cur r ++ tokL [d] [] rest := by
  induction r generalizing pre cur with
  | nil => simp [tokL, hd]
  | cons c r ih =>
    have hc : isMark c = false := hr c (by simp)
    have hr' : ∀ x ∈ r, isMark x = false := fun x hx => hr x (by simp [hx])
    rw [List.cons_append, tokL, tokL, hc]
    simp only [Bool.false_eq_true, if_false]
    split
    · rw [ih _ _ hr', List.cons_append]
    · rw [ih _ _ hr']

theorem tokR_tokL (s : Bs) : ∀ pre, tokR pre (splitI s) = tokL pre [] (lower s) := by
  obtain ⟨n, hn⟩ : ∃ n, s.length = n := ⟨_, rfl⟩
  induction n using Nat.strongRecOn generalizing s with
  | _ n ih =>
    intro pre
    by_cases h : ∃ c ∈ s, isMark c = true
    · obtain ⟨r, d, rest, hs, hr, hd⟩ : ∃ r d rest, s = r ++ d :: rest ∧ (∀ c ∈ r, isMark c = false) ∧ isMark d = true := by
        clear hn ih
        induction s with
        | nil => obtain ⟨c, hc, _⟩ := h; simp at hc
        | cons a t iht =>
          by_cases ha : isMark a = true
          · exact ⟨[], a, t, rfl, by simp, ha⟩
          · obtain ⟨c, hc, hm⟩ := h
            have : c ∈ t := by
              rcases List.mem_cons.1 hc with rfl | h
              · exact absurd hm ha
              · exact h
            obtain ⟨r, d, rest, e, hr, hd⟩ := iht ⟨c, this, hm⟩
            refine ⟨a :: r, d, rest, by rw [e]; rfl, fun x hx => ?_, hd⟩
            rcases List.mem_cons.1 hx with rfl | h
            · simpa using ha
            · exact hr x h
      subst hs
      have e : splitI (r ++ d :: rest) = r :: [d] :: splitI rest := by
        clear hn ih h
        induction r with
        | nil => simp [splitI, hd]
        | cons a t iht =>
          have ha : isMark a = false := hr a (by simp)
          rw [List.cons_append, splitI, ha]
          simp only [Bool.false_eq_true, if_false]
          rw [iht (fun x hx => hr x (by simp [hx]))]
      rw [e, tokR]
      rw [rtok_tokL r pre hr, ih rest.length (by simp at hn; omega) rest rfl [d]]
      rw [lower_append, show lower (d :: rest) = d :: lower rest by rw [lower, List.map_cons, low_mark hd]; rfl]
      rw [tokL_mark _ _ _ _ _ _ hd]
      intro c hc
      obtain ⟨x, hx, rfl⟩ := List.mem_map.1 hc
      rw [isMark_low]; exact hr x hx
    · have hm : ∀ c ∈ s, isMark c = false := fun c hc => by
        by_cases e : isMark c = true
        · exact absurd ⟨c, hc, e⟩ h
        · simpa using e
      have e : splitI s = [s] := by
        clear hn ih h
        induction s with
        | nil => rfl
        | cons a t iht =>
          have ha : isMark a = false := hm a (by simp)
          rw [splitI, ha]
          simp only [Bool.false_eq_true, if_false]
          rw [iht (fun x hx => hm x (by simp [hx]))]
      rw [e, tokR, rtok_tokL s pre hm]

end Go.Proofs.Mv

/- Plain functions on Maven versions: what counts for nothing goes; the order; no Go. -/
namespace Go.Proofs.Mv

def isNull (t : Tok) : Bool := t.v = [48] || t.v = []

def lastHy : List Tok → Option Nat
  | [] => none
  | t :: r => match lastHy r with
    | some k => some (k + 1)
    | none => if t.p = [45] then some 0 else none

theorem lastHy_lt {l : List Tok} : ∀ {k}, lastHy l = some k → k < l.length := by
  induction l with
  | nil => intro k h; simp [lastHy] at h
  | cons t r ih =>
    intro k h
    rw [lastHy] at h
    split at h
    · rename_i j hj
      injection h with h
      subst h
      have := ih hj
      simp; omega
    · split at h
      · injection h with h; subst h; simp
      · cases h

theorem lastHy_none {l : List Tok} (h : ∀ t ∈ l, t.p ≠ [45]) : lastHy l = none := by
  induction l with
  | nil => rfl
  | cons t r ih =>
    rw [lastHy, ih (fun x hx => h x (by simp [hx]))]
    simp [h t (by simp)]

theorem lastHy_some {a b : List Tok} {t : Tok} (ht : t.p = [45]) (hb : ∀ x ∈ b, x.p ≠ [45]) : lastHy (a ++ t :: b) = some a.length := by
  induction a with
  | nil => rw [List.nil_append, lastHy, lastHy_none hb]; simp [ht]
  | cons x r ih => rw [List.cons_append, lastHy, ih]; simp

/-- What counts for nothing at the end and ahead of each hyphen goes. -/
def trimM (l : List Tok) : List Tok :=
  if l.length ≤ 1 then l
  else if isNull (l.getLastD ⟨[], [], false⟩) = true then trimM l.dropLast
  else match _h : lastHy l with
    | none => l
    | some k => if k = 0 then l else trimM (l.take k) ++ l.drop k
termination_by l.length
decreasing_by
  · simp; omega
  · have := lastHy_lt _h; simp; omega

theorem trimM_short {l : List Tok} (h : l.length ≤ 1) : trimM l = l := by rw [trimM, if_pos h]

theorem trimM_null {l : List Tok} {t : Tok} (hl : l ≠ []) (ht : isNull t = true) : trimM (l ++ [t]) = trimM l := by
  have : 0 < l.length := List.length_pos_iff.2 hl
  rw [trimM, if_neg (by simp; omega)]
  simp [ht]

theorem trimM_none {l : List Tok} (hn : isNull (l.getLastD ⟨[], [], false⟩) = false) (h : ∀ t ∈ l, t.p ≠ [45]) : trimM l = l := by
  by_cases hl : l.length ≤ 1
  · exact trimM_short hl
  · rw [trimM, if_neg hl, hn]
    simp only [Bool.false_eq_true, if_false]
    split
    · rfl
    · rename_i k hk
      rw [lastHy_none h] at hk; cases hk

theorem trimM_cut {a b : List Tok} {t : Tok} (hn : isNull ((t :: b).getLastD ⟨[], [], false⟩) = false) (ht : t.p = [45]) (hb : ∀ x ∈ b, x.p ≠ [45]) :
    trimM (a ++ t :: b) = trimM a ++ t :: b := by
  by_cases ha : a = []
  · subst ha
    rw [show trimM [] = [] from trimM_short (by simp)]
    simp only [List.nil_append]
    by_cases hl : (t :: b).length ≤ 1
    · exact trimM_short hl
    · rw [trimM, if_neg hl, hn]
      simp only [Bool.false_eq_true, if_false]
      split
      · rfl
      · rename_i k hk
        have := lastHy_some (a := []) ht hb
        rw [List.nil_append] at this
        rw [this] at hk
        simp at hk
        simp [← hk]
  · have hp : 0 < a.length := List.length_pos_iff.2 ha
    rw [trimM, if_neg (by simp; omega)]
    have e : (a ++ t :: b).getLastD ⟨[], [], false⟩ = (t :: b).getLastD ⟨[], [], false⟩ := by
      rw [List.getLastD_eq_getLast?, List.getLastD_eq_getLast?, List.getLast?_append]
      simp [List.getLast?_cons]
    rw [e, hn]
    simp only [Bool.false_eq_true, if_false]
    split
    · rename_i hk
      rw [lastHy_some ht hb] at hk; cases hk
    · rename_i k hk
      rw [lastHy_some ht hb] at hk
      injection hk with hk
      subst hk
      rw [if_neg (by omega)]
      simp

def mvTokens (s : Bs) : List Tok := trimM (tokR [] (splitI s))

/-! ### The order -/
def bless : Bs → Bs → Bool
  | _, [] => false
  | [], _ :: _ => true
  | a :: x, b :: y => a < b || (a == b && bless x y)

/-- A qualifier's place. -/
def kw (s : Bs) : Nat :=
  if s = sAlpha then 0 else if s = sBeta then 1 else if s = sMile then 2 else if s = sRc then 3 else if s = sSnap then 4 else if s = [] then 5 else if s = sSp then 6 else 7

/-- The place among unlike prefixes; none: another prefix. -/
def qord (t : Tok) : Option Nat :=
  if allDig t.v = true ∧ t.p = [45] then some 2 else if allDig t.v = true ∧ t.p = [46] then some 3
  else if t.p = [45] then some 1 else if t.p = [46] then some 0 else none

/-- lessThan of two tokens; none: an error. -/
def tless (a b : Tok) : Option Bool :=
  if a.p = b.p then
    if allDig a.v = true ∧ allDig b.v = true then some (decide (dval a.v < dval b.v))
    else if allDig a.v = true ∧ a.n = false then some false
    else if allDig b.v = true ∧ b.n = false then some true
    else if kw a.v = 7 ∧ kw b.v = 7 then some (bless a.v b.v)
    else some (decide (kw a.v < kw b.v))
  else match qord a, qord b with
    | some x, some y => some (decide (x < y))
    | _, _ => none

def tnull (t : Tok) : Option Tok :=
  if t.p = [46] then some ⟨[46], if t.v = sSp then [] else [48], true⟩ else if t.p = [45] then some ⟨[45], [], true⟩ else none

def teq (a b : Tok) : Bool := a.p = b.p && a.v = b.v

/-- lessThan of two versions, from here on; none: an error. -/
def vless : List Tok → List Tok → Option Bool
  | [], [] => some false
  | [], y :: ys => match tnull y with
    | none => none
    | some x => if teq x y = true then vless [] ys else tless x y
  | x :: xs, [] => match tnull x with
    | none => none
    | some y => if teq x y = true then vless xs [] else tless x y
  | x :: xs, y :: ys => if teq x y = true then vless xs ys else tless x y

def veq : List Tok → List Tok → Bool
  | [], [] => true
  | x :: xs, y :: ys => teq x y && veq xs ys
  | _, _ => false

/-- compare; none: an error. -/
def vcmp (a b : List Tok) : Option Int :=
  if veq a b = true then some 0 else match vless a b with
    | none => none
    | some true => some (-1)
    | some false => some 1

end Go.Proofs.Mv

/- The order of versions as the reference has it, and that it is the package's; no Go. -/
namespace Go.Proofs.Mv

/-- The reference's tokens, byte by byte. -/
def tokS (pre cur : Bs) : Bs → List Tok
  | [] => [⟨pre, nv cur false, false⟩]
  | c :: r =>
    if isMark c = true then ⟨pre, nv cur false, false⟩ :: tokS [c] [] r
    else if cur ≠ [] ∧ isDig (cur.getLastD 0) ≠ isDig c then ⟨pre, nv cur (isDig c), false⟩ :: tokS [45] [c] r
    else tokS pre (cur ++ [c]) r

theorem nv_dig {s : Bs} (hs : s ≠ []) (hd : ∀ c ∈ s, isDig c = true) (b : Bool) : nv s b = strip s := by
  have : allDig s = true := by
    cases s with
    | nil => exact absurd rfl hs
    | cons a r => simp only [allDig, List.isEmpty_cons, Bool.not_false, Bool.true_and, List.all_eq_true]; exact hd
  rw [nv, if_neg hs, if_pos this]

theorem tokS_tokL : ∀ (r pre cur : Bs), (∀ c ∈ cur, isDig c = isDig (cur.getLastD 0)) → tokS pre cur r = tokL pre cur r := by
  intro r
  induction r with
  | nil => intro pre cur _; rfl
  | cons c r ih =>
    intro pre cur hom
    rw [tokS, tokL]
    by_cases hm : isMark c = true
    · rw [if_pos hm, if_pos hm, ih _ _ (by simp)]
    · rw [if_neg hm, if_neg hm]
      by_cases hc : cur ≠ [] ∧ isDig (cur.getLastD 0) ≠ isDig c
      · rw [if_pos hc, if_pos hc, ih _ _ (by simp)]
        congr 2
        by_cases hd : isDig c = true
        · rw [hd]
        · have e : isDig (cur.getLastD 0) = true := by
            have := hc.2
            cases h : isDig (cur.getLastD 0) <;> simp_all
          rw [nv_dig hc.1 (fun x hx => (hom x hx).trans e), nv_dig hc.1 (fun x hx => (hom x hx).trans e)]
      · rw [if_neg hc, if_neg hc]
        refine ih _ _ fun x hx => ?_
        rw [List.getLastD_concat]
        rcases List.mem_append.1 hx with h | h
        · rw [hom x h]
          have hne : cur ≠ [] := fun e => by rw [e] at h; simp at h
          by_cases e : isDig (cur.getLastD 0) = isDig c
          · exact e
          · exact absurd ⟨hne, e⟩ hc
        · simp only [List.mem_singleton] at h; rw [h]

def specTokens (s : Bs) : List Tok := trimM (tokS [] [] (lower s))
theorem mv_spec (s : Bs) : mvTokens s = specTokens s := by
  rw [mvTokens, specTokens, tokR_tokL, tokS_tokL _ _ _ (by simp)]

/-! ### Known tokens -/
def isLow (c : UInt8) : Bool := 97 ≤ c && c ≤ 122
def tknown (t : Tok) : Bool :=
  if t.n = true ∨ (t.p ≠ [] ∧ t.p ≠ [46] ∧ t.p ≠ [45]) ∨ (t.v.any (fun c => 127 < c)) = true then false
  else if allDig t.v = true then decide (t.v.length = 1) || decide (t.v.headD 0 ≠ 48)
  else decide (t.v = []) || isLow (t.v.headD 0)
def known (l : List Tok) : Bool :=
  match l with
  | [] => false
  | x :: xs => tknown x && decide (x.p = []) && xs.all fun t => tknown t && decide (t.p ≠ [])

def cmpN (a b : Nat) : Int := if a < b then -1 else if b < a then 1 else 0
def cmpB (a b : Bs) : Int := if bless a b = true then -1 else if bless b a = true then 1 else 0
def unz (s : Bs) : Bs := s.dropWhile (· = 48)
def cmpD (a b : Bs) : Int := if (unz a).length ≠ (unz b).length then cmpN (unz a).length (unz b).length else cmpB (unz a) (unz b)
def cmpQ (a b : Bs) : Int := if kw a ≠ kw b then cmpN (kw a) (kw b) else cmpB a b

def one (a b : Tok) : Int × Bool :=
  if a.p ≠ b.p then match qord a, qord b with
    | some x, some y => (cmpN x y, true)
    | some x, none => (cmpN x 0, false)
    | none, some y => (cmpN 0 y, false)
    | none, none => (0, false)
  else if allDig a.v = true ∧ allDig b.v = true then (cmpD a.v b.v, true)
  else if allDig a.v = false ∧ allDig b.v = false then (cmpQ a.v b.v, true)
  else if allDig a.v = true ∧ a.n = true ∧ 6 < kw b.v then (-1, true)
  else if allDig b.v = true ∧ b.n = true ∧ 6 < kw a.v then (1, true)
  else if allDig a.v = true then (1, true) else (-1, true)

def cmpS : List Tok → List Tok → Int × Bool
  | [], [] => (0, true)
  | [], y :: ys => match tnull y with
    | none => (0, false)
    | some x => if (one x y).2 = false ∨ (one x y).1 ≠ 0 then one x y else cmpS [] ys
  | x :: xs, [] => match tnull x with
    | none => (0, false)
    | some y => if (one x y).2 = false ∨ (one x y).1 ≠ 0 then one x y else cmpS xs []
  | x :: xs, y :: ys => if (one x y).2 = false ∨ (one x y).1 ≠ 0 then one x y else cmpS xs ys

theorem bless_irrefl (a : Bs) : bless a a = false := by
  induction a with
  | nil => rfl
  | cons x r ih => simp [bless, ih, UInt8.lt_irrefl]
theorem bless_asymm {a : Bs} : ∀ {b : Bs}, bless a b = true → bless b a = false := by
  induction a with
  | nil => intro b _; cases b <;> rfl
  | cons x r ih =>
    intro b h
    cases b with
    | nil => simp [bless] at h
    | cons y s =>
      simp only [bless, Bool.or_eq_true, decide_eq_true_eq, Bool.and_eq_true, beq_iff_eq] at h
      simp only [bless, Bool.or_eq_false_iff, decide_eq_false_iff_not, Bool.and_eq_false_iff]
      rcases h with h | ⟨rfl, h⟩
      · exact ⟨fun h2 => by rw [UInt8.lt_iff_toNat_lt] at h h2; omega, .inl (by simp; intro e; subst e; exact absurd h (UInt8.lt_irrefl _))⟩
      · exact ⟨UInt8.lt_irrefl _, .inr (ih h)⟩
theorem bless_total {a : Bs} : ∀ {b : Bs}, bless a b = false → bless b a = false → a = b := by
  induction a with
  | nil => intro b h _; cases b with
    | nil => rfl
    | cons y s => simp [bless] at h
  | cons x r ih =>
    intro b h h2
    cases b with
    | nil => simp [bless] at h2
    | cons y s =>
      simp only [bless, Bool.or_eq_false_iff, decide_eq_false_iff_not, Bool.and_eq_false_iff] at h h2
      have e : x = y := UInt8.le_antisymm (UInt8.not_lt.1 h2.1) (UInt8.not_lt.1 h.1)
      subst e
      simp at h h2
      rw [ih h h2]
theorem cmpB_zero {a b : Bs} (h : cmpB a b = 0) : a = b := by
  unfold cmpB at h
  by_cases h1 : bless a b = true
  · rw [if_pos h1] at h; cases h
  · by_cases h2 : bless b a = true
    · rw [if_neg h1, if_pos h2] at h; cases h
    · exact bless_total (by simpa using h1) (by simpa using h2)
theorem cmpB_self (a : Bs) : cmpB a a = 0 := by unfold cmpB; rw [bless_irrefl]; simp

/-- Digits of one length: as their numbers. -/
theorem bless_digits : ∀ (a b : Bs), a.length = b.length → (∀ c ∈ a, isDig c = true) → (∀ c ∈ b, isDig c = true) → (bless a b = true ↔ dval a < dval b) := by
  intro a
  induction a with
  | nil =>
    intro b hl _ _
    have : b = [] := List.eq_nil_of_length_eq_zero hl.symm
    subst this
    simp [bless]
  | cons x r ih =>
    intro b hl ha hb
    cases b with
    | nil => simp at hl
    | cons y s =>
      have hl' : r.length = s.length := by simpa using hl
      have hx := (isDig_iff x).1 (ha x (by simp))
      have hy := (isDig_iff y).1 (hb y (by simp))
      have hr : ∀ c ∈ r, isDig c = true := fun c hc => ha c (by simp [hc])
      have hs : ∀ c ∈ s, isDig c = true := fun c hc => hb c (by simp [hc])
      have i := ih s hl' hr hs
      have lt : ∀ (t : Bs), (∀ c ∈ t, isDig c = true) → dval t < 10 ^ t.length := by
        intro t ht
        obtain ⟨n, hn⟩ : ∃ n, t.length = n := ⟨_, rfl⟩
        induction n generalizing t with
        | zero => rw [List.eq_nil_of_length_eq_zero hn, dval_nil]; simp
        | succ n ih2 =>
          rcases List.eq_nil_or_concat t with h | ⟨u, c, h⟩
          · rw [h] at hn; simp at hn
          · rw [List.concat_eq_append] at h
            subst h
            have hc := (isDig_iff c).1 (ht c (by simp))
            have := ih2 u (fun z hz => ht z (by simp [hz])) (by simpa using hn)
            rw [dval_snoc, List.length_append, List.length_singleton, Nat.pow_succ]
            omega
      have e1 : dval (x :: r) = (x.toNat - 48) * 10 ^ r.length + dval r := by
        rw [dval, dvalA_cons, dvalA_lin]; simp
      have e2 : dval (y :: s) = (y.toNat - 48) * 10 ^ r.length + dval s := by
        rw [dval, dvalA_cons, dvalA_lin, hl']; simp
      have l1 := lt r hr
      have l2 := lt s hs
      rw [← hl'] at l2
      rw [e1, e2]
      simp only [bless, Bool.or_eq_true, decide_eq_true_eq, Bool.and_eq_true, beq_iff_eq, UInt8.lt_iff_toNat_lt]
      rcases Nat.lt_trichotomy x.toNat y.toNat with h | h | h
      · have : (x.toNat - 48 + 1) * 10 ^ r.length ≤ (y.toNat - 48) * 10 ^ r.length := Nat.mul_le_mul_right _ (by omega)
        rw [Nat.add_mul] at this
        constructor
        · intro _; omega
        · intro _; exact .inl h
      · have e : x = y := UInt8.toNat_inj.1 h
        subst e
        constructor
        · rintro (h | ⟨_, h⟩)
          · omega
          · have := i.1 h; omega
        · intro h; exact .inr ⟨rfl, i.2 (by omega)⟩
      · have : (y.toNat - 48 + 1) * 10 ^ r.length ≤ (x.toNat - 48) * 10 ^ r.length := Nat.mul_le_mul_right _ (by omega)
        rw [Nat.add_mul] at this
        constructor
        · rintro (h2 | ⟨h2, _⟩)
          · omega
          · subst h2; omega
        · intro h2; omega

theorem dval_lt (t : Bs) (ht : ∀ c ∈ t, isDig c = true) : dval t < 10 ^ t.length := by
  obtain ⟨n, hn⟩ : ∃ n, t.length = n := ⟨_, rfl⟩
  induction n generalizing t with
  | zero => rw [List.eq_nil_of_length_eq_zero hn, dval_nil]; simp
  | succ n ih2 =>
    rcases List.eq_nil_or_concat t with h | ⟨u, c, h⟩
    · rw [h] at hn; simp at hn
    · rw [List.concat_eq_append] at h
      subst h
      have hc := (isDig_iff c).1 (ht c (by simp))
      have := ih2 u (fun z hz => ht z (by simp [hz])) (by simpa using hn)
      rw [dval_snoc, List.length_append, List.length_singleton, Nat.pow_succ]
      omega

theorem unz_head (s : Bs) : unz s = [] ∨ ∃ c r, unz s = c :: r ∧ c ≠ 48 := by
  induction s with
  | nil => exact .inl rfl
  | cons a r ih =>
    unfold unz at *
    by_cases h : a = 48
    · rw [List.dropWhile_cons_of_pos (by simp [h])]; exact ih
    · rw [List.dropWhile_cons_of_neg (by simp [h])]; exact .inr ⟨a, r, rfl, h⟩
theorem unz_dig {s : Bs} (h : ∀ c ∈ s, isDig c = true) : ∀ c ∈ unz s, isDig c = true := fun c hc => h c ((List.dropWhile_sublist _).subset hc)
theorem dval_unz (s : Bs) : dval (unz s) = dval s := by
  induction s with
  | nil => rfl
  | cons a r ih =>
    unfold unz at *
    by_cases h : a = 48
    · rw [List.dropWhile_cons_of_pos (by simp [h]), ih, h, dval, dval, dvalA_cons]; rfl
    · rw [List.dropWhile_cons_of_neg (by simp [h])]
theorem unz_lo {s : Bs} (h : ∀ c ∈ s, isDig c = true) (hne : unz s ≠ []) : 10 ^ ((unz s).length - 1) ≤ dval s := by
  rcases unz_head s with h1 | ⟨c, r, e, hc⟩
  · exact absurd h1 hne
  · rw [← dval_unz s, e, dval, dvalA_cons, dvalA_lin]
    have hd := (isDig_iff c).1 (unz_dig h c (by rw [e]; simp))
    have : c.toNat ≠ 48 := fun h2 => hc (UInt8.toNat_inj.1 h2)
    simp only [List.length_cons, Nat.add_sub_cancel, Nat.mul_zero, Nat.zero_add]
    have : 1 * 10 ^ r.length ≤ (c.toNat - 48) * 10 ^ r.length := Nat.mul_le_mul_right _ (by omega)
    omega

/-- Digits compare as their numbers. -/
theorem cmpD_eq {a b : Bs} (ha : ∀ c ∈ a, isDig c = true) (hb : ∀ c ∈ b, isDig c = true) : cmpD a b = cmpN (dval a) (dval b) := by
  have key : ∀ {a b : Bs}, (∀ c ∈ a, isDig c = true) → (∀ c ∈ b, isDig c = true) → (unz a).length < (unz b).length → dval a < dval b := by
    intro a b ha hb h
    have h1 := dval_lt _ (unz_dig ha)
    rw [dval_unz] at h1
    have h2 := unz_lo hb (fun e => by rw [e] at h; simp at h)
    have : 10 ^ (unz a).length ≤ 10 ^ ((unz b).length - 1) := Nat.pow_le_pow_right (by omega) (by omega)
    omega
  unfold cmpD
  by_cases hl : (unz a).length ≠ (unz b).length
  · rw [if_pos hl]
    unfold cmpN
    rcases Nat.lt_or_gt_of_ne hl with h | h
    · rw [if_pos h, if_pos (key ha hb h)]
    · have := key hb ha h
      rw [if_neg (by omega), if_pos h, if_neg (by omega), if_pos this]
  · have hl' : (unz a).length = (unz b).length := by omega
    rw [if_neg hl]
    have h1 := bless_digits _ _ hl' (unz_dig ha) (unz_dig hb)
    have h2 := bless_digits _ _ hl'.symm (unz_dig hb) (unz_dig ha)
    rw [dval_unz, dval_unz] at h1 h2
    unfold cmpB cmpN
    by_cases h : bless (unz a) (unz b) = true
    · rw [if_pos h, if_pos (h1.1 h)]
    · rw [if_neg h, if_neg (fun e => h (h1.2 e))]
      by_cases h3 : bless (unz b) (unz a) = true
      · rw [if_pos h3, if_pos (h2.1 h3)]
      · rw [if_neg h3, if_neg (fun e => h3 (h2.2 e))]

theorem kw_le (s : Bs) : kw s ≤ 7 := by unfold kw; repeat' split <;> first | omega | skip
theorem kw_inj {a b : Bs} (h : kw a = kw b) (hne : kw a ≠ 7) : a = b := by
  unfold kw at h hne
  repeat' (split at h)
  all_goals (first | (simp_all; done) | (exfalso; revert h; repeat' split; all_goals omega) | skip)

end Go.Proofs.Mv

/- The package's order of versions is the reference's, for tokens of a version in normal form; no Go. -/
namespace Go.Proofs.Mv

theorem allDig_iff (s : Bs) : allDig s = true ↔ s ≠ [] ∧ ∀ c ∈ s, isDig c = true := by
  cases s with
  | nil => simp [allDig]
  | cons a r => simp only [allDig, List.isEmpty_cons, Bool.not_false, Bool.true_and, List.all_eq_true, ne_eq, reduceCtorEq, not_false_eq_true, true_and]

/-- A value that is a number without zeros ahead, or begins with a small letter, or is nothing. -/
def Good (t : Tok) : Prop :=
  (allDig t.v = true → t.v = dec (dval t.v)) ∧ (allDig t.v = false → t.v = [] ∨ isLow (t.v.headD 0) = true) ∧ (t.n = true → t.v = [48] ∨ t.v = [])

theorem kw_dig {s : Bs} (h : allDig s = true) : kw s = 7 := by
  have := (allDig_iff s).1 h
  unfold kw
  rw [if_neg (by rintro rfl; revert h; decide), if_neg (by rintro rfl; revert h; decide), if_neg (by rintro rfl; revert h; decide), if_neg (by rintro rfl; revert h; decide),
    if_neg (by rintro rfl; revert h; decide), if_neg (by rintro rfl; revert h; decide), if_neg (by rintro rfl; revert h; decide)]

theorem kw_nil : kw [] = 5 := by decide

/-- A number is ahead of an unknown qualifier by its bytes. -/
theorem bless_dl {a b : Bs} (ha : allDig a = true) (hb : isLow (b.headD 0) = true) : bless a b = true ∧ bless b a = false := by
  obtain ⟨hne, hd⟩ := (allDig_iff a).1 ha
  cases a with
  | nil => exact absurd rfl hne
  | cons x r =>
    cases b with
    | nil => exact absurd hb (by decide)
    | cons y s =>
      have hx := (isDig_iff x).1 (hd x (by simp))
      simp only [List.headD_cons, isLow, Bool.and_eq_true, decide_eq_true_eq, UInt8.le_iff_toNat_le] at hb
      have h1 : (97 : UInt8).toNat = 97 := rfl
      have hlt : x < y := by rw [UInt8.lt_iff_toNat_lt]; omega
      have hb1 : bless (x :: r) (y :: s) = true := by simp [bless, hlt]
      exact ⟨hb1, bless_asymm hb1⟩

theorem cmpN_mem (a b : Nat) : (cmpN a b = -1 ∧ a < b) ∨ (cmpN a b = 0 ∧ a = b) ∨ (cmpN a b = 1 ∧ b < a) := by
  unfold cmpN
  by_cases h : a < b
  · rw [if_pos h]; exact .inl ⟨rfl, h⟩
  · rw [if_neg h]
    by_cases h2 : b < a
    · rw [if_pos h2]; exact .inr (.inr ⟨rfl, h2⟩)
    · rw [if_neg h2]; exact .inr (.inl ⟨rfl, by omega⟩)
theorem cmpB_mem (a b : Bs) : (cmpB a b = -1 ∧ bless a b = true) ∨ (cmpB a b = 0 ∧ a = b) ∨ (cmpB a b = 1 ∧ bless a b = false ∧ a ≠ b) := by
  by_cases h : bless a b = true
  · exact .inl ⟨by unfold cmpB; rw [if_pos h], h⟩
  · by_cases h2 : bless b a = true
    · refine .inr (.inr ⟨by unfold cmpB; rw [if_neg h, if_pos h2], by simpa using h, ?_⟩)
      rintro rfl; exact h h2
    · have e := bless_total (by simpa using h) (by simpa using h2)
      exact .inr (.inl ⟨by subst e; exact cmpB_self _, e⟩)

/-- What one comparison must be. -/
def Fits (a b : Tok) (c : Int) : Prop := one a b = (c, true) ∧ tless a b = some (decide (c < 0)) ∧ (teq a b = true ↔ c = 0) ∧ (c = -1 ∨ c = 0 ∨ c = 1)

theorem fits_same {a b : Tok} (ga : Good a) (gb : Good b) (hp : a.p = b.p) : ∃ c, Fits a b c := by
  have ht : ∀ c : Int, (a.v = b.v ↔ c = 0) → (teq a b = true ↔ c = 0) := by
    intro c h
    rw [← h]; simp [teq, hp]
  unfold Fits one tless
  simp only [hp, ne_eq, not_true_eq_false, if_false, if_true]
  cases hda : allDig a.v with
  | true =>
    cases hdb : allDig b.v with
    | true =>
      have ha := (allDig_iff _).1 hda
      have hb := (allDig_iff _).1 hdb
      refine ⟨cmpN (dval a.v) (dval b.v), ?_, ?_, ht _ ?_, ?_⟩
      · rw [if_pos ⟨rfl, rfl⟩, cmpD_eq ha.2 hb.2]
      · rw [if_pos ⟨rfl, rfl⟩]
        rcases cmpN_mem (dval a.v) (dval b.v) with ⟨h, h2⟩ | ⟨h, h2⟩ | ⟨h, h2⟩ <;> rw [h] <;> simp <;> omega
      · constructor
        · intro h; rw [h]; unfold cmpN; simp
        · intro h
          rcases cmpN_mem (dval a.v) (dval b.v) with ⟨h', _⟩ | ⟨_, h2⟩ | ⟨h', _⟩
          · omega
          · rw [ga.1 hda, gb.1 hdb, h2]
          · omega
      · rcases cmpN_mem (dval a.v) (dval b.v) with ⟨h, _⟩ | ⟨h, _⟩ | ⟨h, _⟩ <;> omega
    | false =>
      have hne : a.v ≠ b.v := fun e => by rw [e, hdb] at hda; cases hda
      simp only [Bool.false_eq_true, and_false, if_false, Bool.true_eq_false, false_and, true_and, if_true]
      by_cases hn : a.n = true
      · by_cases hk : 6 < kw b.v
        · have k7 : kw b.v = 7 := by have := kw_le b.v; omega
          have hb : isLow (b.v.headD 0) = true := by
            rcases gb.2.1 hdb with e | e
            · rw [e, kw_nil] at k7; omega
            · exact e
          refine ⟨-1, by rw [if_pos ⟨hn, hk⟩], ?_, ht _ ⟨fun h => absurd h hne, fun h => by omega⟩, by omega⟩
          rw [if_neg (by rw [hn]; simp), if_pos ⟨kw_dig hda, k7⟩, (bless_dl hda hb).1]; simp
        · refine ⟨1, by rw [if_neg (fun h => hk h.2)], ?_, ht _ ⟨fun h => absurd h hne, fun h => by omega⟩, by omega⟩
          rw [if_neg (by rw [hn]; simp), if_neg (fun h => by have := h.2; omega), kw_dig hda]
          congr 1; simp; have := kw_le b.v; omega
      · refine ⟨1, by rw [if_neg (fun h => hn h.1)], ?_, ht _ ⟨fun h => absurd h hne, fun h => by omega⟩, by omega⟩
        rw [if_pos (by simpa using hn)]; simp
  | false =>
    cases hdb : allDig b.v with
    | true =>
      have hne : a.v ≠ b.v := fun e => by rw [e, hdb] at hda; cases hda
      simp only [Bool.false_eq_true, and_false, if_false, Bool.true_eq_false, false_and, true_and]
      by_cases hn : b.n = true
      · by_cases hk : 6 < kw a.v
        · have k7 : kw a.v = 7 := by have := kw_le a.v; omega
          have ha : isLow (a.v.headD 0) = true := by
            rcases ga.2.1 hda with e | e
            · rw [e, kw_nil] at k7; omega
            · exact e
          refine ⟨1, by rw [if_pos ⟨hn, hk⟩], ?_, ht _ ⟨fun h => absurd h hne, fun h => by omega⟩, by omega⟩
          rw [if_neg (by rw [hn]; simp), if_pos ⟨k7, kw_dig hdb⟩, (bless_dl hdb ha).2]; simp
        · refine ⟨-1, by rw [if_neg (fun h => hk h.2)], ?_, ht _ ⟨fun h => absurd h hne, fun h => by omega⟩, by omega⟩
          rw [if_neg (by rw [hn]; simp), if_neg (fun h => by have := h.1; omega), kw_dig hdb]
          congr 1; simp; have := kw_le a.v; omega
      · refine ⟨-1, by rw [if_neg (fun h => hn h.1)], ?_, ht _ ⟨fun h => absurd h hne, fun h => by omega⟩, by omega⟩
        rw [if_pos (by simpa using hn)]; simp
    | false =>
      simp only [Bool.false_eq_true, if_false, and_self, if_true, false_and]
      refine ⟨cmpQ a.v b.v, rfl, ?_, ht _ ?_, ?_⟩
      · unfold cmpQ
        by_cases hk : kw a.v ≠ kw b.v
        · rw [if_pos hk, if_neg (fun h => hk (h.1.trans h.2.symm))]
          rcases cmpN_mem (kw a.v) (kw b.v) with ⟨h, h2⟩ | ⟨h, h2⟩ | ⟨h, h2⟩ <;> rw [h] <;> simp <;> omega
        · have e : kw a.v = kw b.v := by omega
          rw [if_neg hk]
          by_cases h7 : kw a.v = 7
          · rw [if_pos ⟨h7, e ▸ h7⟩]
            rcases cmpB_mem a.v b.v with ⟨h, h2⟩ | ⟨h, h2⟩ | ⟨h, h2, _⟩
            · rw [h, h2]; simp
            · rw [h, h2, bless_irrefl]; simp
            · rw [h, h2]; simp
          · rw [if_neg (fun h => h7 h.1)]
            have := kw_inj e h7
            rw [this, cmpB_self]; simp
      · constructor
        · intro h; rw [h]; unfold cmpQ; simp [cmpB_self]
        · intro h
          unfold cmpQ at h
          by_cases hk : kw a.v ≠ kw b.v
          · rw [if_pos hk] at h
            rcases cmpN_mem (kw a.v) (kw b.v) with ⟨h1, _⟩ | ⟨_, h2⟩ | ⟨h1, _⟩
            · omega
            · exact absurd h2 hk
            · omega
          · rw [if_neg hk] at h
            exact cmpB_zero h
      · unfold cmpQ
        by_cases hk : kw a.v ≠ kw b.v
        · rw [if_pos hk]
          rcases cmpN_mem (kw a.v) (kw b.v) with ⟨h1, _⟩ | ⟨h1, _⟩ | ⟨h1, _⟩ <;> omega
        · rw [if_neg hk]
          rcases cmpB_mem a.v b.v with ⟨h1, _⟩ | ⟨h1, _⟩ | ⟨h1, _⟩ <;> omega

theorem qord_pt {t : Tok} (h : t.p = [46]) : qord t = some (if allDig t.v = true then 3 else 0) := by
  unfold qord; cases hd : allDig t.v <;> simp [h]
theorem qord_hy {t : Tok} (h : t.p = [45]) : qord t = some (if allDig t.v = true then 2 else 1) := by
  unfold qord; cases hd : allDig t.v <;> simp [h]

theorem fits_diff {a b : Tok} (ha : a.p = [46] ∨ a.p = [45]) (hb : b.p = [46] ∨ b.p = [45]) (hp : a.p ≠ b.p) : ∃ c, Fits a b c := by
  have hte : teq a b = false := by simp [teq, hp]
  have key : ∀ x y : Nat, qord a = some x → qord b = some y → x ≠ y → ∃ c, Fits a b c := by
    intro x y hx hy hne
    refine ⟨cmpN x y, ?_, ?_, ?_, ?_⟩
    · rw [one, if_pos hp, hx, hy]
    · rw [tless, if_neg hp, hx, hy]
      rcases cmpN_mem x y with ⟨h, h2⟩ | ⟨h, h2⟩ | ⟨h, h2⟩ <;> simp only [h] <;> simp <;> omega
    · rw [hte]
      rcases cmpN_mem x y with ⟨h, h2⟩ | ⟨h, h2⟩ | ⟨h, h2⟩ <;> rw [h] <;> simp <;> omega
    · rcases cmpN_mem x y with ⟨h, _⟩ | ⟨h, _⟩ | ⟨h, _⟩ <;> omega
  rcases ha with ha | ha <;> rcases hb with hb | hb
  · exact absurd (ha.trans hb.symm) hp
  · refine key _ _ (qord_pt ha) (qord_hy hb) ?_
    split <;> split <;> omega
  · refine key _ _ (qord_hy ha) (qord_pt hb) ?_
    split <;> split <;> omega
  · exact absurd (ha.trans hb.symm) hp

def Mid (t : Tok) : Prop := Good t ∧ (t.p = [46] ∨ t.p = [45])

theorem mid_null {t x : Tok} (h : tnull t = some x) : Mid x ∧ x.p = t.p ∧ (x.v = [48] ∨ x.v = []) := by
  unfold tnull at h
  by_cases h1 : t.p = [46]
  · rw [if_pos h1] at h
    injection h with h
    subst h
    refine ⟨⟨⟨fun hd => ?_, fun hd => ?_, fun _ => ?_⟩, .inl rfl⟩, h1.symm, ?_⟩
    · by_cases hs : t.v = sSp
      · simp only [hs, if_true] at hd; cases hd
      · simp only [hs, if_false]; rw [show dval [48] = 0 by rw [dval_one]; rfl, dec_lt (by omega)]; rfl
    · by_cases hs : t.v = sSp
      · simp [hs]
      · simp only [hs, if_false] at hd; exact absurd hd (by decide)
    · by_cases hs : t.v = sSp <;> simp [hs]
    · by_cases hs : t.v = sSp <;> simp [hs]
  · rw [if_neg h1] at h
    by_cases h2 : t.p = [45]
    · rw [if_pos h2] at h
      injection h with h
      subst h
      exact ⟨⟨⟨fun hd => absurd hd (by decide), fun _ => .inl rfl, fun _ => .inr rfl⟩, .inr rfl⟩, h2.symm, .inr rfl⟩
    · rw [if_neg h2] at h; cases h
theorem tnull_mid {t : Tok} (h : Mid t) : ∃ x, tnull t = some x := by
  unfold tnull
  rcases h.2 with h | h
  · rw [if_pos h]; exact ⟨_, rfl⟩
  · rw [h]; exact ⟨_, rfl⟩
theorem fits_mid {a b : Tok} (ha : Mid a) (hb : Mid b) : ∃ c, Fits a b c := by
  by_cases hp : a.p = b.p
  · exact fits_same ha.1 hb.1 hp
  · exact fits_diff ha.2 hb.2 hp

/-- What the comparison of two rests of versions must be. -/
def FitsL (a b : List Tok) (c : Int) : Prop := cmpS a b = (c, true) ∧ vless a b = some (decide (c < 0)) ∧ (veq a b = true ↔ c = 0) ∧ (c = -1 ∨ c = 0 ∨ c = 1)

def LastOk (l : List Tok) : Prop := l ≠ [] → isNull (l.getLastD ⟨[], [], false⟩) = false

theorem LastOk.tail {x : Tok} {xs : List Tok} (h : LastOk (x :: xs)) : LastOk xs := by
  intro hne
  have := h (by simp)
  cases xs with
  | nil => exact absurd rfl hne
  | cons y ys => simpa using this

theorem fits_left {l : List Tok} (hm : ∀ t ∈ l, Mid t) (hl : LastOk l) (hne : l ≠ []) : ∃ c, FitsL [] l c ∧ c ≠ 0 := by
  induction l with
  | nil => exact absurd rfl hne
  | cons y ys ih =>
    have my := hm y (by simp)
    obtain ⟨x, hx⟩ := tnull_mid my
    obtain ⟨mx, _, hv⟩ := mid_null hx
    obtain ⟨c, h1, h2, h3, h4⟩ := fits_mid mx my
    have he : veq [] (y :: ys) = false := rfl
    by_cases h0 : c = 0
    · have hte := h3.2 h0
      have hys : ys ≠ [] := by
        rintro rfl
        have := hl (by simp)
        simp only [List.getLastD_cons, List.getLastD_nil] at this
        simp only [teq, Bool.and_eq_true, decide_eq_true_eq] at hte
        rw [hte.2] at hv
        simp only [isNull, Bool.or_eq_false_iff, decide_eq_false_iff_not] at this
        rcases hv with h | h
        · exact this.1 h
        · exact this.2 h
      obtain ⟨d, ⟨g1, g2, g3, g4⟩, hd⟩ := ih (fun t ht => hm t (by simp [ht])) hl.tail hys
      refine ⟨d, ⟨?_, ?_, ⟨fun h => (by rw [he] at h; cases h), fun h => absurd h hd⟩, g4⟩, hd⟩
      · rw [cmpS, hx]; simp only; rw [h1, if_neg (by simp [h0]), g1]
      · rw [vless, hx]; simp only; rw [if_pos hte, g2]
    · refine ⟨c, ⟨?_, ?_, ⟨fun h => (by rw [he] at h; cases h), fun h => absurd h h0⟩, h4⟩, h0⟩
      · rw [cmpS, hx]; simp only; rw [h1, if_pos (.inr h0)]
      · rw [vless, hx]; simp only; rw [if_neg (fun h => h0 (h3.1 h)), h2]
theorem fits_right {l : List Tok} (hm : ∀ t ∈ l, Mid t) (hl : LastOk l) (hne : l ≠ []) : ∃ c, FitsL l [] c ∧ c ≠ 0 := by
  induction l with
  | nil => exact absurd rfl hne
  | cons y ys ih =>
    have my := hm y (by simp)
    obtain ⟨x, hx⟩ := tnull_mid my
    obtain ⟨mx, _, hv⟩ := mid_null hx
    obtain ⟨c, h1, h2, h3, h4⟩ := fits_mid my mx
    have he : veq (y :: ys) [] = false := rfl
    by_cases h0 : c = 0
    · have hte := h3.2 h0
      have hys : ys ≠ [] := by
        rintro rfl
        have := hl (by simp)
        simp only [List.getLastD_cons, List.getLastD_nil] at this
        simp only [teq, Bool.and_eq_true, decide_eq_true_eq] at hte
        rw [← hte.2] at hv
        simp only [isNull, Bool.or_eq_false_iff, decide_eq_false_iff_not] at this
        rcases hv with h | h
        · exact this.1 h
        · exact this.2 h
      obtain ⟨d, ⟨g1, g2, g3, g4⟩, hd⟩ := ih (fun t ht => hm t (by simp [ht])) hl.tail hys
      refine ⟨d, ⟨?_, ?_, ⟨fun h => (by rw [he] at h; cases h), fun h => absurd h hd⟩, g4⟩, hd⟩
      · rw [cmpS, hx]; simp only; rw [h1, if_neg (by simp [h0]), g1]
      · rw [vless, hx]; simp only; rw [if_pos hte, g2]
    · refine ⟨c, ⟨?_, ?_, ⟨fun h => (by rw [he] at h; cases h), fun h => absurd h h0⟩, h4⟩, h0⟩
      · rw [cmpS, hx]; simp only; rw [h1, if_pos (.inr h0)]
      · rw [vless, hx]; simp only; rw [if_neg (fun h => h0 (h3.1 h)), h2]

theorem fits_cons {x y : Tok} {xs ys : List Tok} {c : Int} (hf : Fits x y c) (hr : ∃ d, FitsL xs ys d) : ∃ d, FitsL (x :: xs) (y :: ys) d := by
  obtain ⟨h1, h2, h3, h4⟩ := hf
  by_cases h0 : c = 0
  · have hte := h3.2 h0
    obtain ⟨d, g1, g2, g3, g4⟩ := hr
    refine ⟨d, ?_, ?_, ?_, g4⟩
    · rw [cmpS, h1, if_neg (by simp [h0]), g1]
    · rw [vless, if_pos hte, g2]
    · rw [veq, hte, Bool.true_and, g3]
  · have hte : teq x y = false := by
      cases h : teq x y
      · rfl
      · exact absurd (h3.1 h) h0
    refine ⟨c, ?_, ?_, ?_, h4⟩
    · rw [cmpS, h1, if_pos (.inr h0)]
    · rw [vless, if_neg (by simp [hte]), h2]
    · rw [veq, hte, Bool.false_and]; simp [h0]

theorem fits_rest : ∀ (a b : List Tok), (∀ t ∈ a, Mid t) → (∀ t ∈ b, Mid t) → LastOk a → LastOk b → ∃ c, FitsL a b c := by
  intro a
  induction a with
  | nil =>
    intro b _ hb _ lb
    cases b with
    | nil => exact ⟨0, by rw [cmpS], by rw [vless]; simp, by simp [veq], by omega⟩
    | cons y ys => obtain ⟨c, h, _⟩ := fits_left hb lb (by simp); exact ⟨c, h⟩
  | cons x xs ih =>
    intro b ha hb la lb
    cases b with
    | nil => obtain ⟨c, h, _⟩ := fits_right ha la (by simp); exact ⟨c, h⟩
    | cons y ys =>
      obtain ⟨c, hf⟩ := fits_mid (ha x (by simp)) (hb y (by simp))
      exact fits_cons hf (ih ys (fun t ht => ha t (by simp [ht])) (fun t ht => hb t (by simp [ht])) la.tail lb.tail)

/-- A version's tokens in normal form: the first one without a prefix. -/
def Vers (l : List Tok) : Prop := ∃ x xs, l = x :: xs ∧ Good x ∧ x.p = [] ∧ (∀ t ∈ xs, Mid t) ∧ LastOk xs

theorem vcmp_cmpS {a b : List Tok} (ha : Vers a) (hb : Vers b) : ∃ c, cmpS a b = (c, true) ∧ vcmp a b = some c ∧ (c = -1 ∨ c = 0 ∨ c = 1) ∧ (c = 0 ↔ veq a b = true) := by
  obtain ⟨x, xs, rfl, gx, px, mx, lx⟩ := ha
  obtain ⟨y, ys, rfl, gy, py, my, ly⟩ := hb
  obtain ⟨c, hf⟩ := fits_same gx gy (px.trans py.symm)
  obtain ⟨d, g1, g2, g3, g4⟩ := fits_cons hf (fits_rest xs ys mx my lx ly)
  refine ⟨d, g1, ?_, g4, g3.symm⟩
  unfold vcmp
  by_cases h0 : d = 0
  · rw [if_pos (g3.2 h0), h0]
  · rw [if_neg (fun h => h0 (g3.1 h)), g2]
    rcases g4 with rfl | rfl | rfl
    · rfl
    · exact absurd rfl h0
    · rfl

end Go.Proofs.Mv

/- Plain functions on Maven versions: the tokens of a text that is built of pieces; what trimming does; no Go. -/
namespace Go.Proofs.Mv

/-- A piece: the mark ahead of it ([]: none), its bytes. -/
structure Pc where
  m : Bs
  q : Bs

def ptxt (ps : List Pc) : Bs := ps.flatMap fun p => p.m ++ p.q
theorem ptxt_nil : ptxt [] = [] := rfl
theorem ptxt_cons (p : Pc) (r : List Pc) : ptxt (p :: r) = p.m ++ p.q ++ ptxt r := rfl
theorem ptxt_append (a b : List Pc) : ptxt (a ++ b) = ptxt a ++ ptxt b := by simp [ptxt]

/-- Bytes of one sort, no mark among them, one at least. -/
def Hom (q : Bs) (b : Bool) : Prop := q ≠ [] ∧ ∀ c ∈ q, isMark c = false ∧ isDig c = b

def PcOk : List Pc → Prop
  | [] => True
  | p :: r => (∃ b, Hom p.q b ∧ match r with
    | [] => True
    | p' :: _ => (p'.m = [] ∧ Hom p'.q (!b)) ∨ p'.m = [45] ∨ p'.m = [46]) ∧ PcOk r

/-- The prefix of what comes next; is it glued? -/
def nx : List Pc → Bs
  | [] => []
  | p :: _ => if p.m = [] then [45] else p.m
def gl : List Pc → Bool
  | [] => false
  | p :: _ => decide (p.m = [])
/-- The tokens of pieces. -/
def ptoks (pre : Bs) : List Pc → List Tok
  | [] => []
  | p :: r => ⟨pre, nv (lower p.q) (gl r), false⟩ :: ptoks (nx r) r

theorem tokL_word (pre : Bs) (b : Bool) (rest : Bs) : ∀ (q cur : Bs), (∀ c ∈ q, isMark c = false ∧ isDig c = b) → (cur = [] ∨ isDig (cur.getLastD 0) = b) → tokL pre cur (q ++ rest) = tokL pre (cur ++ q) rest
  | [], cur, _, _ => by simp
  | c :: q, cur, h, hc => by
    have h1 := h c (by simp)
    rw [List.cons_append, tokL, h1.1]
    simp only [Bool.false_eq_true, if_false]
    rw [if_neg (by rintro ⟨g1, g2⟩; rcases hc with hc | hc; exact g1 hc; exact g2 (hc.trans h1.2.symm))]
    rw [tokL_word pre b rest q (cur ++ [c]) (fun x hx => h x (by simp [hx])) (.inr (by simp [h1.2]))]
    simp
theorem tokL_cut (pre cur r : Bs) (d : UInt8) (hd : isMark d = true) : tokL pre cur (d :: r) = ⟨pre, nv cur false, false⟩ :: tokL [d] [] r := by rw [tokL, if_pos hd]
theorem hom_lower {q : Bs} {b : Bool} (h : Hom q b) : Hom (lower q) b := by
  refine ⟨by simpa [lower] using h.1, fun c hc => ?_⟩
  obtain ⟨x, hx, rfl⟩ := List.mem_map.1 hc
  rw [isMark_low, isDig_low]; exact h.2 x hx
theorem hom_last {q : Bs} {b : Bool} (h : Hom q b) : isDig (q.getLastD 0) = b := by
  rcases List.eq_nil_or_concat q with e | ⟨l, x, e⟩
  · exact absurd e h.1
  · rw [List.concat_eq_append] at e; subst e
    simpa using (h.2 x (by simp)).2

theorem ptoks_tokL : ∀ (r : List Pc) (p : Pc) (pre : Bs), PcOk (p :: r) → tokL pre [] (lower (p.q ++ ptxt r)) = ptoks pre (p :: r)
  | [], p, pre, h => by
    obtain ⟨⟨b, hb, _⟩, _⟩ := h
    have hl := hom_lower hb
    rw [ptxt_nil, List.append_nil]
    have := tokL_word pre b [] (lower p.q) [] hl.2 (.inl rfl)
    rw [List.append_nil] at this
    rw [this, List.nil_append, tokL]; rfl
  | p' :: r, p, pre, h => by
    obtain ⟨⟨b, hb, hn⟩, hr⟩ := h
    have hl := hom_lower hb
    have ih := fun q => ptoks_tokL r p' q hr
    rw [lower_append, tokL_word pre b _ (lower p.q) [] hl.2 (.inl rfl), List.nil_append, ptxt_cons]
    rcases hn with ⟨hm, hq⟩ | hm
    · have hq' := hom_lower hq
      rw [hm, List.nil_append]
      have hih := ih [45]
      rw [lower_append] at hih ⊢
      have e : ptoks pre (p :: p' :: r) = ⟨pre, nv (lower p.q) true, false⟩ :: ptoks [45] (p' :: r) := by
        rw [ptoks]; simp [hm, nx, gl]
      rw [e, ← hih]
      obtain ⟨c, t, ht⟩ := List.exists_cons_of_ne_nil hq'.1
      have hc := hq'.2 c (by rw [ht]; simp)
      rw [ht, List.cons_append, tokL, tokL, hc.1]
      simp only [Bool.false_eq_true, if_false]
      rw [if_pos ⟨hl.1, by rw [hom_last hl, hc.2]; cases b <;> simp⟩, if_neg (by simp)]
      rfl
    · have hmk : ∃ d, p'.m = [d] ∧ isMark d = true := by
        rcases hm with hm | hm
        · exact ⟨45, hm, rfl⟩
        · exact ⟨46, hm, rfl⟩
      obtain ⟨d, hd, hk⟩ := hmk
      have hih := ih [d]
      have e : ptoks pre (p :: p' :: r) = ⟨pre, nv (lower p.q) false, false⟩ :: ptoks [d] (p' :: r) := by
        rw [ptoks]; simp [hd, nx, gl]
      rw [e, ← hih, hd, List.append_assoc, lower_append, show lower [d] = [d] by rw [lower, List.map_cons, low_mark hk]; rfl, List.singleton_append, tokL_cut _ _ _ _ hk]
theorem tokR_pcs {p : Pc} {r : List Pc} (hm : p.m = []) (h : PcOk (p :: r)) : tokR [] (splitI (ptxt (p :: r))) = ptoks [] (p :: r) := by
  rw [tokR_tokL, ptxt_cons, hm, List.nil_append]; exact ptoks_tokL r p [] h
theorem mvTokens_pcs {p : Pc} {r : List Pc} (hm : p.m = []) (h : PcOk (p :: r)) : mvTokens (ptxt (p :: r)) = trimM (ptoks [] (p :: r)) := by
  rw [mvTokens, tokR_pcs hm h]

/-- Text behind a mark is read anew. -/
theorem tokL_split (d : UInt8) (rest : Bs) (hd : isMark d = true) : ∀ (r pre cur : Bs), tokL pre cur (r ++ d :: rest) = tokL pre cur r ++ tokL [d] [] rest
  | [], pre, cur => by rw [List.nil_append, tokL_cut _ _ _ _ hd, tokL]; rfl
  | c :: r, pre, cur => by
    rw [List.cons_append, tokL, tokL]
    split
    · rw [tokL_split d rest hd r, List.cons_append]
    · split
      · rw [tokL_split d rest hd r, List.cons_append]
      · rw [tokL_split d rest hd r]

/-! ### Trimming -/
theorem rev_ind {α : Type} {motive : List α → Prop} (nil : motive []) (snoc : ∀ l x, motive l → motive (l ++ [x])) (l : List α) : motive l := by
  rw [← List.reverse_reverse l]
  induction l.reverse with
  | nil => exact nil
  | cons x r ih => rw [List.reverse_cons]; exact snoc _ _ ih
theorem lastHy_form : ∀ (l : List Tok), (∀ t ∈ l, t.p ≠ [45]) ∨ ∃ a t b, l = a ++ t :: b ∧ t.p = [45] ∧ ∀ x ∈ b, x.p ≠ [45]
  | [] => .inl (by simp)
  | t :: r => by
    rcases lastHy_form r with h | ⟨a, u, b, h1, h2, h3⟩
    · by_cases ht : t.p = [45]
      · exact .inr ⟨[], t, r, rfl, ht, h⟩
      · left
        intro x hx
        rcases List.mem_cons.1 hx with rfl | hx
        · exact ht
        · exact h x hx
    · exact .inr ⟨t :: a, u, b, by rw [h1]; rfl, h2, h3⟩
theorem getLastD_mem {l : List Tok} (h : l ≠ []) (d : Tok) : l.getLastD d ∈ l := by
  rcases List.eq_nil_or_concat l with e | ⟨a, x, e⟩
  · exact absurd e h
  · rw [List.concat_eq_append] at e; subst e; simp
theorem trimM_id (l : List Tok) (h : ∀ t ∈ l, isNull t = false) : trimM l = l := by
  obtain ⟨n, hn⟩ : ∃ n, l.length = n := ⟨_, rfl⟩
  induction n using Nat.strongRecOn generalizing l with
  | _ n ih =>
    by_cases hl : l = []
    · subst hl; exact trimM_short (by simp)
    · rcases lastHy_form l with hf | ⟨a, t, b, rfl, h2, h3⟩
      · exact trimM_none (h _ (getLastD_mem hl _)) hf
      · rw [trimM_cut (h _ (by have := getLastD_mem (l := t :: b) (by simp) ⟨[], [], false⟩; simp only [List.mem_append]; exact .inr this)) h2 h3, ih a.length (by simp at hn; omega) a (fun x hx => h x (by simp [hx])) rfl]
theorem trimM_nulls {l : List Tok} (hl : l ≠ []) : ∀ (z : List Tok), (∀ t ∈ z, isNull t = true) → trimM (l ++ z) = trimM l := by
  intro z
  induction z using rev_ind with
  | nil => intro _; rw [List.append_nil]
  | snoc z t ih =>
    intro h
    rw [← List.append_assoc, trimM_null (by simp [hl]) (h t (by simp)), ih (fun x hx => h x (by simp [hx]))]
theorem trimM_hy {l : List Tok} {t : Tok} (ht : t.p = [45]) (hn : isNull t = false) : trimM (l ++ [t]) = trimM l ++ [t] := trimM_cut (b := []) (by simpa using hn) ht (by simp)
theorem trimM_pt {l : List Tok} {t : Tok} (hl : ∀ x ∈ l, x.p ≠ [45]) (ht : t.p ≠ [45]) (hn : isNull t = false) : trimM (l ++ [t]) = l ++ [t] := by
  refine trimM_none (by simpa using hn) (fun x hx => ?_)
  rcases List.mem_append.1 hx with hx | hx
  · exact hl x hx
  · simp at hx; subst hx; exact ht
theorem trimM_ne (l : List Tok) (h : l ≠ []) : trimM l ≠ [] := by
  obtain ⟨n, hn⟩ : ∃ n, l.length = n := ⟨_, rfl⟩
  induction n using Nat.strongRecOn generalizing l with
  | _ n ih =>
    by_cases hl : l.length ≤ 1
    · rw [trimM_short hl]; exact h
    · rw [trimM, if_neg hl]
      split
      · refine ih (l.length - 1) (by omega) _ ?_ (by simp)
        intro e
        have := congrArg List.length e
        simp at this; omega
      · split
        · exact h
        · rename_i k hk
          have := lastHy_lt hk
          split
          · exact h
          · intro e
            have := congrArg List.length e
            simp only [List.length_append, List.length_drop, List.length_nil] at this
            omega
/-- Two lists with one trimmed form have one, whatever stands behind both. -/
theorem trimM_two {a b : List Tok} (ha : a ≠ []) (hb : b ≠ []) (h : trimM a = trimM b) {t : Tok} (ht : t.p = [45]) : trimM (a ++ [t]) = trimM (b ++ [t]) := by
  by_cases hn : isNull t = true
  · rw [trimM_null ha hn, trimM_null hb hn, h]
  · have hn : isNull t = false := by simpa using hn
    rw [trimM_hy ht hn, trimM_hy ht hn, h]

/-! ### Numbers -/
def numToks (pre : Bs) : List Nat → List Tok
  | [] => []
  | n :: r => ⟨pre, dec n, false⟩ :: numToks [46] r
def numPcs (pre : Bs) : List Nat → List Pc
  | [] => []
  | n :: r => ⟨pre, dec n⟩ :: numPcs [46] r
theorem isDig_mark {c : UInt8} (h : isDig c = true) : isMark c = false := by
  rw [isDig_iff] at h
  by_cases hm : isMark c = true
  · rw [isMark_iff] at hm; omega
  · simpa using hm
theorem low_dig {c : UInt8} (h : isDig c = true) : low c = c := by
  rw [isDig_iff] at h
  unfold low
  rw [if_neg]
  simp only [Bool.and_eq_true, decide_eq_true_eq, UInt8.le_iff_toNat_le]
  have h1 : (65 : UInt8).toNat = 65 := rfl
  omega
theorem lower_dig {q : Bs} (h : ∀ c ∈ q, isDig c = true) : lower q = q := by
  unfold lower
  exact (List.map_congr_left fun c hc => low_dig (h c hc)).trans (by simp)
theorem hom_dig {q : Bs} (h0 : q ≠ []) (h : ∀ c ∈ q, isDig c = true) : Hom q true := ⟨h0, fun c hc => ⟨isDig_mark (h c hc), h c hc⟩⟩
theorem hom_dec (n : Nat) : Hom (dec n) true := hom_dig (dec_ne_nil n) (dec_dig n)
theorem strip_dec_self (n : Nat) : strip (dec n) = dec n := by rw [strip_dec _ (dec_ne_nil n) (dec_dig n), dval_dec]
theorem nv_dec (n : Nat) (b : Bool) : nv (lower (dec n)) b = dec n := by rw [lower_dig (dec_dig n), nv_dig (dec_ne_nil n) (dec_dig n), strip_dec_self]
theorem dec_null (n : Nat) : dec n = [48] ↔ n = 0 := dec_head
theorem isNull_dec (p : Bs) (n : Nat) : isNull ⟨p, dec n, false⟩ = decide (n = 0) := by
  rw [isNull]
  by_cases h : n = 0
  · subst h; rw [show dec 0 = [48] from dec_head.2 rfl]; rfl
  · simp [h, mt dec_head.1 h, dec_ne_nil]
theorem numToks_append (pre : Bs) (a b : List Nat) (h : a ≠ []) : numToks pre (a ++ b) = numToks pre a ++ numToks [46] b := by
  induction a generalizing pre with
  | nil => exact absurd rfl h
  | cons n r ih =>
    rw [List.cons_append, numToks, numToks]
    cases r with
    | nil => rfl
    | cons m r => rw [ih [46] (by simp), List.cons_append]
theorem numToks_ne {pre : Bs} {l : List Nat} (h : l ≠ []) : numToks pre l ≠ [] := by
  cases l with
  | nil => exact absurd rfl h
  | cons => simp [numToks]
theorem numToks_p : ∀ (l : List Nat) (pre : Bs), pre ≠ [45] → ∀ t ∈ numToks pre l, t.p ≠ [45]
  | [], _, _, t, h => by simp [numToks] at h
  | n :: r, pre, hp, t, h => by
    rcases List.mem_cons.1 h with rfl | h
    · exact hp
    · exact numToks_p r [46] (by decide) t h
theorem numPcs_ok : ∀ (l : List Nat) (pre : Bs) (more : List Pc), PcOk more → (∀ p r, more = p :: r → (p.m = [] ∧ Hom p.q false) ∨ p.m = [45] ∨ p.m = [46]) → PcOk (numPcs pre l ++ more)
  | [], _, more, h, _ => h
  | n :: r, pre, more, h, hm => by
    have ih := numPcs_ok r [46] more h hm
    refine ⟨⟨true, hom_dec n, ?_⟩, ih⟩
    cases r with
    | nil =>
      cases more with
      | nil => exact trivial
      | cons p t => exact hm p t rfl
    | cons m r => exact .inr (.inr rfl)
theorem ptoks_num : ∀ (l : List Nat) (pre : Bs) (more : List Pc), ptoks pre (numPcs pre l ++ more) = numToks pre l ++ ptoks (if l = [] then pre else nx more) more
  | [], pre, more => by simp [numPcs, numToks]
  | n :: r, pre, more => by
    rw [show numPcs pre (n :: r) ++ more = ⟨pre, dec n⟩ :: (numPcs [46] r ++ more) from rfl, ptoks, nv_dec]
    cases r with
    | nil => simp [numPcs, numToks]
    | cons m r =>
      have ih := ptoks_num (m :: r) [46] more
      rw [show nx (numPcs [46] (m :: r) ++ more) = [46] from rfl, ih]
      simp [numToks]
/-- Numbers with points between. -/
def numTxt (l : List Nat) : Bs := ptxt (numPcs [] l)
theorem numTxt_one (n : Nat) : numTxt [n] = dec n := by simp [numTxt, numPcs, ptxt]
theorem numTxt_cons (n m : Nat) (r : List Nat) : numTxt (n :: m :: r) = dec n ++ 46 :: numTxt (m :: r) := by simp [numTxt, numPcs, ptxt]
theorem numTxt_snoc (n : Nat) : ∀ (l : List Nat), l ≠ [] → numTxt (l ++ [n]) = numTxt l ++ 46 :: dec n
  | [], h => absurd rfl h
  | [m], _ => by rw [List.singleton_append, numTxt_cons, numTxt_one, numTxt_one]
  | m :: k :: r, _ => by rw [List.cons_append, List.cons_append, numTxt_cons, ← List.cons_append, numTxt_snoc n (k :: r) (by simp), numTxt_cons]; simp
/-- The tokens of numbers with points between, and pieces behind. -/
theorem tokR_num {l : List Nat} (hl : l ≠ []) (more : List Pc) (ho : PcOk more) (hm : ∀ p r, more = p :: r → (p.m = [] ∧ Hom p.q false) ∨ p.m = [45] ∨ p.m = [46]) :
    tokR [] (splitI (numTxt l ++ ptxt more)) = numToks [] l ++ ptoks (nx more) more := by
  obtain ⟨n, r, rfl⟩ := List.exists_cons_of_ne_nil hl
  have h := numPcs_ok (n :: r) [] more ho hm
  have e := ptoks_num (n :: r) [] more
  rw [if_neg (by simp)] at e
  rw [← e, numTxt, ← ptxt_append]
  exact tokR_pcs (p := ⟨[], dec n⟩) (r := numPcs [46] r ++ more) rfl h
theorem mvTokens_num {l : List Nat} (hl : l ≠ []) (more : List Pc) (ho : PcOk more) (hm : ∀ p r, more = p :: r → (p.m = [] ∧ Hom p.q false) ∨ p.m = [45] ∨ p.m = [46]) :
    mvTokens (numTxt l ++ ptxt more) = trimM (numToks [] l ++ ptoks (nx more) more) := by
  rw [mvTokens, tokR_num hl more ho hm]
end Go.Proofs.Mv

/- Plain functions on Maven versions: the order of numbers, of one token more, of two turned round; no Go. -/
namespace Go.Proofs.Mv

theorem teq_self (t : Tok) : teq t t = true := by simp [teq]
theorem veq_self : ∀ (a : List Tok), veq a a = true
  | [] => rfl
  | x :: xs => by rw [veq, teq_self, veq_self xs]; rfl
theorem vcmp_self (a : List Tok) : vcmp a a = some 0 := by rw [vcmp, if_pos (veq_self a)]
theorem veq_pre (c x y : List Tok) : veq (c ++ x) (c ++ y) = veq x y := by
  induction c with
  | nil => rfl
  | cons t r ih => rw [List.cons_append, List.cons_append, veq, teq_self, Bool.true_and, ih]
theorem vless_pre (c x y : List Tok) : vless (c ++ x) (c ++ y) = vless x y := by
  induction c with
  | nil => rfl
  | cons t r ih => rw [List.cons_append, List.cons_append, vless, if_pos (teq_self t), ih]
theorem vcmp_pre (c x y : List Tok) : vcmp (c ++ x) (c ++ y) = vcmp x y := by rw [vcmp, vcmp, veq_pre, vless_pre]

/-! ### Numbers -/
def cmpL : List Nat → List Nat → Int
  | [], [] => 0
  | [], y :: ys => if y = 0 then cmpL [] ys else -1
  | x :: xs, [] => if x = 0 then cmpL xs [] else 1
  | x :: xs, y :: ys => if x < y then -1 else if y < x then 1 else cmpL xs ys
theorem cmpL_mem : ∀ (a b : List Nat), cmpL a b = -1 ∨ cmpL a b = 0 ∨ cmpL a b = 1
  | [], [] => by simp [cmpL]
  | [], y :: ys => by rw [cmpL]; split; exact cmpL_mem [] ys; simp
  | x :: xs, [] => by rw [cmpL]; split; exact cmpL_mem xs []; simp
  | x :: xs, y :: ys => by rw [cmpL]; split; simp; split; simp; exact cmpL_mem xs ys
theorem dec_inj {a b : Nat} (h : dec a = dec b) : a = b := by rw [← dval_dec a, ← dval_dec b, h]
theorem allDig_dec (n : Nat) : allDig (dec n) = true := (allDig_iff _).2 ⟨dec_ne_nil n, dec_dig n⟩
theorem teq_num (p : Bs) (a b : Nat) (m k : Bool) : teq ⟨p, dec a, m⟩ ⟨p, dec b, k⟩ = decide (a = b) := by
  by_cases h : a = b
  · simp [teq, h]
  · have hne : dec a ≠ dec b := fun e => h (dec_inj e)
    simp [teq, h, hne]
theorem tless_num (p : Bs) (a b : Nat) (m k : Bool) : tless ⟨p, dec a, m⟩ ⟨p, dec b, k⟩ = some (decide (a < b)) := by
  rw [tless, if_pos rfl, if_pos ⟨allDig_dec a, allDig_dec b⟩, dval_dec, dval_dec]
theorem dec_zero : dec 0 = [48] := dec_head.2 rfl
theorem dec_sp (n : Nat) : dec n ≠ sSp := by
  intro h
  have := allDig_dec n
  rw [h] at this
  exact absurd this (by decide)
theorem tnull_num (n : Nat) (b : Bool) : tnull ⟨[46], dec n, b⟩ = some ⟨[46], dec 0, true⟩ := by
  rw [tnull, if_pos rfl, if_neg (dec_sp n), dec_zero]
theorem vless_num : ∀ (xs ys : List Nat) (p : Bs), (p = [46] ∨ (xs ≠ [] ∧ ys ≠ [])) → vless (numToks p xs) (numToks p ys) = some (decide (cmpL xs ys < 0))
  | [], [], p, _ => by simp [numToks, vless, cmpL]
  | [], y :: ys, p, h => by
    obtain rfl : p = [46] := by rcases h with h | h; exact h; exact absurd rfl h.1
    rw [numToks, numToks, vless, tnull_num]
    simp only [teq_num, tless_num, decide_eq_true_eq]
    have ih := vless_num [] ys [46] (.inl rfl)
    rw [numToks] at ih
    rw [cmpL]
    by_cases h0 : y = 0
    · rw [if_pos h0.symm, if_pos h0, ih]
    · rw [if_neg (Ne.symm h0), if_neg h0]; simp; omega
  | x :: xs, [], p, h => by
    obtain rfl : p = [46] := by rcases h with h | h; exact h; exact absurd rfl h.2
    rw [numToks, numToks, vless, tnull_num]
    simp only [teq_num, tless_num, decide_eq_true_eq]
    have ih := vless_num xs [] [46] (.inl rfl)
    rw [show numToks [46] [] = [] from rfl] at ih
    rw [cmpL]
    by_cases h0 : x = 0
    · rw [if_pos h0, if_pos h0, ih]
    · rw [if_neg h0, if_neg h0]; simp
  | x :: xs, y :: ys, p, _ => by
    rw [numToks, numToks, vless, teq_num, tless_num]
    have ih := vless_num xs ys [46] (.inl rfl)
    rw [cmpL]
    by_cases h0 : x = y
    · subst h0; simp [ih]
    · simp only [decide_eq_true_eq, if_neg h0]
      by_cases h1 : x < y
      · simp [h1]
      · have : y < x := by omega
        simp [h1, this]
theorem veq_num : ∀ (xs ys : List Nat) (p : Bs), veq (numToks p xs) (numToks p ys) = decide (xs = ys)
  | [], [], _ => by simp [numToks, veq]
  | [], y :: ys, _ => by simp [numToks, veq]
  | x :: xs, [], _ => by simp [numToks, veq]
  | x :: xs, y :: ys, p => by
    rw [numToks, numToks, veq, teq_num, veq_num xs ys]
    by_cases h : x = y <;> simp [h]
/-- Numbers without zeros at the end, the first one aside. -/
def Tz (a : List Nat) : Prop := a ≠ [] ∧ (a.length = 1 ∨ a.getLastD 0 ≠ 0)
theorem tz_form : ∀ (l : List Nat), l ≠ [] → ∃ a k, l = a ++ List.replicate k 0 ∧ Tz a := by
  intro l
  induction l using rev_ind with
  | nil => intro h; exact absurd rfl h
  | snoc l n ih =>
    intro _
    by_cases hl : l = []
    · subst hl; exact ⟨[n], 0, by simp, by simp, .inl rfl⟩
    · by_cases h0 : n = 0
      · obtain ⟨a, k, h1, h2⟩ := ih hl
        exact ⟨a, k + 1, by rw [h1, h0, List.replicate_succ']; simp, h2⟩
      · exact ⟨l ++ [n], 0, by simp, by simp, .inr (by simpa using h0)⟩
theorem trimM_num {a : List Nat} (h : Tz a) (k : Nat) : trimM (numToks [] (a ++ List.replicate k 0)) = numToks [] a := by
  have hz : ∀ k, ∀ t ∈ numToks [46] (List.replicate k 0), isNull t = true := by
    intro k
    induction k with
    | zero => intro t ht; simp [numToks] at ht
    | succ k ih =>
      intro t ht
      rw [List.replicate_succ, numToks] at ht
      rcases List.mem_cons.1 ht with rfl | ht
      · rw [isNull_dec]; simp
      · exact ih t ht
  rw [numToks_append [] a _ h.1, trimM_nulls (numToks_ne h.1) _ (hz k)]
  rcases h.2 with h1 | h1
  · refine trimM_short ?_
    have : ∀ (l : List Nat) (p : Bs), (numToks p l).length = l.length := by
      intro l
      induction l with
      | nil => intro p; rfl
      | cons n r ih => intro p; simp [numToks, ih]
    rw [this]; omega
  · refine trimM_none ?_ (numToks_p a [] (by simp))
    rcases List.eq_nil_or_concat a with e | ⟨l, x, e⟩
    · exact absurd e h.1
    · rw [List.concat_eq_append] at e
      subst e
      simp only [List.getLastD_concat] at h1
      by_cases hl : l = []
      · subst hl
        simp only [List.nil_append, numToks, List.getLastD_cons, List.getLastD_nil]
        rw [isNull_dec]; simpa using h1
      · rw [numToks_append [] l _ hl]
        simp only [numToks, List.getLastD_concat]
        rw [isNull_dec]; simpa using h1
theorem cmpL_nil_zeros : ∀ (k : Nat), cmpL [] (List.replicate k 0) = 0 ∧ cmpL (List.replicate k 0) [] = 0
  | 0 => by simp [cmpL]
  | k + 1 => by rw [List.replicate_succ, cmpL, cmpL, if_pos rfl, if_pos rfl]; exact cmpL_nil_zeros k
theorem cmpL_zr : ∀ (a b : List Nat) (k : Nat), cmpL a (b ++ List.replicate k 0) = cmpL a b
  | [], [], k => by rw [List.nil_append, (cmpL_nil_zeros k).1, cmpL]
  | x :: xs, [], 0 => by simp
  | x :: xs, [], k + 1 => by
    have := cmpL_zr xs [] k
    rw [List.nil_append] at this
    rw [List.nil_append, List.replicate_succ, cmpL, cmpL, this, if_neg (by omega)]
    by_cases h : x = 0
    · rw [if_pos h, if_neg (by omega)]
    · rw [if_neg h, if_pos (by omega)]
  | [], y :: ys, k => by rw [List.cons_append, cmpL, cmpL, cmpL_zr [] ys k]
  | x :: xs, y :: ys, k => by rw [List.cons_append, cmpL, cmpL, cmpL_zr xs ys k]
theorem cmpL_zl : ∀ (a b : List Nat) (k : Nat), cmpL (a ++ List.replicate k 0) b = cmpL a b
  | [], [], k => by rw [List.nil_append, (cmpL_nil_zeros k).2, cmpL]
  | [], y :: ys, 0 => by simp
  | [], y :: ys, k + 1 => by
    have := cmpL_zl [] ys k
    rw [List.nil_append] at this
    rw [List.nil_append, List.replicate_succ, cmpL, cmpL, this, if_neg (show ¬ y < 0 by omega)]
    by_cases h : y = 0
    · rw [if_pos h, if_neg (by omega)]
    · rw [if_neg h, if_pos (by omega)]
  | x :: xs, [], k => by rw [List.cons_append, cmpL, cmpL, cmpL_zl xs [] k]
  | x :: xs, y :: ys, k => by rw [List.cons_append, cmpL, cmpL, cmpL_zl xs ys k]
theorem cmpL_nil_last : ∀ (b : List Nat), b ≠ [] → b.getLastD 0 ≠ 0 → cmpL [] b ≠ 0 ∧ cmpL b [] ≠ 0
  | [], h, _ => absurd rfl h
  | [y], _, h => by
    have hy : y ≠ 0 := by simpa using h
    simp [cmpL, hy]
  | y :: z :: r, _, h => by
    have ih := cmpL_nil_last (z :: r) (by simp) (by simpa using h)
    have e1 : cmpL [] (y :: z :: r) = if y = 0 then cmpL [] (z :: r) else -1 := by rw [cmpL]
    have e2 : cmpL (y :: z :: r) [] = if y = 0 then cmpL (z :: r) [] else 1 := by rw [cmpL]
    rw [e1, e2]
    by_cases h0 : y = 0
    · rw [if_pos h0, if_pos h0]; exact ih
    · rw [if_neg h0, if_neg h0]; decide
theorem cmpL_eq : ∀ (a b : List Nat), a ≠ [] → b ≠ [] → (a.length = 1 ∨ a.getLastD 0 ≠ 0) → (b.length = 1 ∨ b.getLastD 0 ≠ 0) → cmpL a b = 0 → a = b
  | [], _, h, _, _, _, _ => absurd rfl h
  | _, [], _, h, _, _, _ => absurd rfl h
  | x :: xs, y :: ys, _, _, ha, hb, h => by
    rw [cmpL] at h
    split at h
    · cases h
    · split at h
      · cases h
      · obtain rfl : x = y := by omega
        cases xs with
        | nil =>
          cases ys with
          | nil => rfl
          | cons z r =>
            have := (cmpL_nil_last (z :: r) (by simp) (by rcases hb with hb | hb; simp at hb; simpa using hb)).1
            exact absurd h this
        | cons u s =>
          have hu : (u :: s).getLastD 0 ≠ 0 := by rcases ha with ha | ha; simp at ha; simpa using ha
          cases ys with
          | nil => exact absurd h (cmpL_nil_last (u :: s) (by simp) hu).2
          | cons z r => rw [cmpL_eq (u :: s) (z :: r) (by simp) (by simp) (.inr hu) (.inr (by rcases hb with hb | hb; simp at hb; simpa using hb)) h]
theorem cmpL_self : ∀ (a : List Nat), cmpL a a = 0
  | [] => by simp [cmpL]
  | x :: xs => by rw [cmpL, if_neg (by omega), if_neg (by omega), cmpL_self xs]
theorem vcmp_of {a b : List Tok} {c : Int} (hc : c = -1 ∨ c = 0 ∨ c = 1) (he : veq a b = true ↔ c = 0) (hl : vless a b = some (decide (c < 0))) : vcmp a b = some c := by
  unfold vcmp
  by_cases h : veq a b = true
  · rw [if_pos h, he.1 h]
  · rw [if_neg h, hl]
    have h0 : c ≠ 0 := fun e => h (he.2 e)
    rcases hc with rfl | rfl | rfl
    · rfl
    · exact absurd rfl h0
    · rfl
/-- Versions of numbers alone compare number by number. -/
theorem vcmp_num {x y : List Nat} (hx : x ≠ []) (hy : y ≠ []) : vcmp (trimM (numToks [] x)) (trimM (numToks [] y)) = some (cmpL x y) := by
  obtain ⟨a, k, rfl, ha⟩ := tz_form x hx
  obtain ⟨b, j, rfl, hb⟩ := tz_form y hy
  rw [trimM_num ha, trimM_num hb, cmpL_zr, cmpL_zl]
  refine vcmp_of (cmpL_mem a b) ?_ (vless_num a b [] (.inr ⟨ha.1, hb.1⟩))
  rw [veq_num, decide_eq_true_eq]
  exact ⟨fun e => e ▸ cmpL_self a, cmpL_eq a b ha.1 hb.1 ha.2 hb.2⟩

/-! ### One token more, behind a hyphen -/
def rk (t : Tok) : Nat := if allDig t.v = true then 8 else kw t.v
/-- A token behind a hyphen, a number only if it was there. -/
def Hy (t : Tok) : Prop := t.p = [45] ∧ (allDig t.v = true → t.n = false)
theorem hy_less {a b : Tok} (ha : Hy a) (hb : Hy b) (h : rk a < rk b) : tless a b = some true ∧ tless b a = some false ∧ teq a b = false ∧ teq b a = false := by
  have hk := kw_le b.v
  have hkk := kw_le a.v
  have hv : a.v ≠ b.v := by
    intro e; unfold rk at h; rw [e] at h; exact Nat.lt_irrefl _ h
  have hp : a.p = b.p := ha.1.trans hb.1.symm
  unfold rk at h
  have hda : allDig a.v = false := by
    cases hd : allDig a.v
    · rfl
    · exfalso
      rw [hd] at h
      simp only [if_true] at h
      split at h <;> omega
  rw [hda] at h
  simp only [Bool.false_eq_true, if_false] at h
  refine ⟨?_, ?_, by simp [teq, hv], by simp [teq, Ne.symm hv]⟩
  · rw [tless, if_pos hp]
    simp only [hda, Bool.false_eq_true, false_and, if_false]
    by_cases hdb : allDig b.v = true
    · rw [if_pos ⟨hdb, hb.2 hdb⟩]
    · rw [if_neg (fun e => hdb e.1)]
      rw [if_neg hdb] at h
      rw [if_neg (by omega)]
      simp [h]
  · rw [tless, if_pos hp.symm]
    simp only [hda, Bool.false_eq_true, and_false, if_false]
    by_cases hdb : allDig b.v = true
    · rw [if_pos ⟨hdb, hb.2 hdb⟩]
    · rw [if_neg (fun e => hdb e.1)]
      rw [if_neg hdb] at h
      simp only [false_and, if_false]
      rw [if_neg (by omega)]
      simp; omega
theorem vcmp_hy_hy {a b : Tok} (ha : Hy a) (hb : Hy b) (h : rk a < rk b) : vcmp [a] [b] = some (-1) ∧ vcmp [b] [a] = some 1 := by
  obtain ⟨h1, h2, h3, h4⟩ := hy_less ha hb h
  exact ⟨by simp [vcmp, veq, vless, h3, h1], by simp [vcmp, veq, vless, h4, h2]⟩
theorem hy_null {t : Tok} (h : t.p = [45]) : tnull t = some ⟨[45], [], true⟩ := by rw [tnull, if_neg (by rw [h]; decide), if_pos h]
theorem hy_five : Hy ⟨[45], [], true⟩ ∧ rk ⟨[45], [], true⟩ = 5 := ⟨⟨rfl, by decide⟩, by decide⟩
theorem vcmp_hy_none {a : Tok} (ha : Hy a) : (rk a < 5 → vcmp [a] [] = some (-1) ∧ vcmp [] [a] = some 1) ∧ (5 < rk a → vcmp [a] [] = some 1 ∧ vcmp [] [a] = some (-1)) := by
  obtain ⟨g1, g2⟩ := hy_five
  constructor
  · intro h
    obtain ⟨h1, h2, h3, h4⟩ := hy_less ha g1 (by rw [g2]; exact h)
    exact ⟨by simp [vcmp, veq, vless, hy_null ha.1, h3, h1], by simp [vcmp, veq, vless, hy_null ha.1, h4, h2]⟩
  · intro h
    obtain ⟨h1, h2, h3, h4⟩ := hy_less g1 ha (by rw [g2]; exact h)
    exact ⟨by simp [vcmp, veq, vless, hy_null ha.1, h4, h2], by simp [vcmp, veq, vless, hy_null ha.1, h3, h1]⟩
/-- A token behind a hyphen is ahead of a number behind a point. -/
theorem vcmp_hy_num {a : Tok} (ha : a.p = [45]) (n : Nat) (r : List Nat) : vcmp [a] (numToks [46] (n :: r)) = some (-1) ∧ vcmp (numToks [46] (n :: r)) [a] = some 1 := by
  have hp : a.p ≠ [46] := by rw [ha]; decide
  have q1 : qord ⟨[46], dec n, false⟩ = some 3 := by rw [qord_pt rfl, if_pos (allDig_dec n)]
  have q2 : ∃ k, qord a = some k ∧ k < 3 := by
    rw [qord_hy ha]
    split
    · exact ⟨2, rfl, by omega⟩
    · exact ⟨1, rfl, by omega⟩
  obtain ⟨k, q2, hk⟩ := q2
  have t1 : teq a ⟨[46], dec n, false⟩ = false := by simp [teq, hp]
  have t2 : teq ⟨[46], dec n, false⟩ a = false := by simp [teq, Ne.symm hp]
  have l1 : tless a ⟨[46], dec n, false⟩ = some true := by rw [tless, if_neg hp, q1, q2]; simp [hk]
  have l2 : tless ⟨[46], dec n, false⟩ a = some false := by rw [tless, if_neg (Ne.symm hp), q1, q2]; simp; omega
  exact ⟨by simp [numToks, vcmp, veq, vless, t1, l1], by simp [numToks, vcmp, veq, vless, t2, l2]⟩

/-! ### Turned round -/
theorem cmpN_neg (a b : Nat) : cmpN b a = -cmpN a b := by
  unfold cmpN
  split <;> split <;> first | rfl | omega
theorem cmpB_neg (a b : Bs) : cmpB b a = -cmpB a b := by
  rcases cmpB_mem a b with ⟨h, h1⟩ | ⟨h, rfl⟩ | ⟨h, h1, h2⟩
  · rw [h]; unfold cmpB; rw [bless_asymm h1]; simp [h1]
  · rw [h]; rfl
  · rw [h]
    unfold cmpB
    have : bless b a = true := by
      cases hb : bless b a
      · exact absurd (bless_total h1 hb) h2
      · rfl
    simp [this]
theorem cmpD_neg (a b : Bs) : cmpD b a = -cmpD a b := by
  unfold cmpD
  by_cases h : (unz a).length = (unz b).length
  · rw [if_neg (by simp [h]), if_neg (by simp [h]), cmpB_neg]
  · rw [if_pos (Ne.symm h), if_pos h, cmpN_neg]
theorem cmpQ_neg (a b : Bs) : cmpQ b a = -cmpQ a b := by
  unfold cmpQ
  by_cases h : kw a = kw b
  · rw [if_neg (by simp [h]), if_neg (by simp [h]), cmpB_neg]
  · rw [if_pos (Ne.symm h), if_pos h, cmpN_neg]
theorem one_neg (a b : Tok) : one b a = (-(one a b).1, (one a b).2) := by
  unfold one
  by_cases hp : a.p = b.p
  · simp only [hp, ne_eq, not_true_eq_false, if_false]
    cases hda : allDig a.v <;> cases hdb : allDig b.v <;> simp only [Bool.false_eq_true, Bool.true_eq_false, true_and, and_true, false_and, and_false, if_true, if_false]
    · rw [cmpQ_neg]
    · split <;> rfl
    · split <;> rfl
    · rw [cmpD_neg]
  · rw [if_pos (Ne.symm hp), if_pos hp]
    cases qord a <;> cases qord b
    · rfl
    · simp only [Prod.mk.injEq, and_true]; exact cmpN_neg _ _
    · simp only [Prod.mk.injEq, and_true]; exact cmpN_neg _ _
    · simp only [Prod.mk.injEq, and_true]; exact cmpN_neg _ _
theorem cmpS_neg : ∀ (a b : List Tok), cmpS b a = (-(cmpS a b).1, (cmpS a b).2)
  | [], [] => by simp [cmpS]
  | [], y :: ys => by
    rw [cmpS, cmpS]
    cases tnull y with
    | none => rfl
    | some x =>
      simp only
      rw [one_neg x y]
      simp only [ne_eq, Int.neg_eq_zero]
      split
      · rfl
      · exact cmpS_neg [] ys
  | x :: xs, [] => by
    rw [cmpS, cmpS]
    cases tnull x with
    | none => rfl
    | some y =>
      simp only
      rw [one_neg x y]
      simp only [ne_eq, Int.neg_eq_zero]
      split
      · rfl
      · exact cmpS_neg xs []
  | x :: xs, y :: ys => by
    rw [cmpS, cmpS, one_neg x y]
    simp only [ne_eq, Int.neg_eq_zero]
    split
    · rfl
    · exact cmpS_neg xs ys
theorem vcmp_neg {a b : List Tok} (ha : Vers a) (hb : Vers b) {c : Int} (h : vcmp a b = some c) : vcmp b a = some (-c) := by
  obtain ⟨d, g1, g2, _, _⟩ := vcmp_cmpS ha hb
  obtain ⟨e, k1, k2, _, _⟩ := vcmp_cmpS hb ha
  rw [g2] at h
  injection h with h
  rw [cmpS_neg a b, g1] at k1
  simp only [Prod.mk.injEq] at k1
  rw [k2, ← k1.1, h]
end Go.Proofs.Mv

/- Plain functions on Maven versions: what the statements say of tokens and orders; no Go. -/
namespace Go.Proofs.Mv

/-! ### Digits with marks between -/
theorem ptoks_marked : ∀ (r : List Pc) (p : Pc) (pre : Bs), (∀ x ∈ r, x.m = [45] ∨ x.m = [46]) → ptoks pre (p :: r) = ⟨pre, nv (lower p.q) false, false⟩ :: r.map fun x => ⟨x.m, nv (lower x.q) false, false⟩
  | [], p, pre, _ => rfl
  | p' :: r, p, pre, h => by
    have hm : p'.m ≠ [] := by rcases h p' (by simp) with e | e <;> rw [e] <;> decide
    have ih := ptoks_marked r p' p'.m (fun x hx => h x (by simp [hx]))
    rw [ptoks]
    rw [show nx (p' :: r) = p'.m by simp [nx, hm], show gl (p' :: r) = false by simp [gl, hm], ih]; rfl
theorem pcOk_marked : ∀ (r : List Pc) (p : Pc), (∀ x ∈ r, x.m = [45] ∨ x.m = [46]) → (∀ x ∈ p :: r, ∃ b, Hom x.q b) → PcOk (p :: r)
  | [], p, _, hq => by
    obtain ⟨b, hb⟩ := hq p (by simp)
    exact ⟨⟨b, hb, trivial⟩, trivial⟩
  | p' :: r, p, h, hq => by
    obtain ⟨b, hb⟩ := hq p (by simp)
    exact ⟨⟨b, hb, .inr (h p' (by simp))⟩, pcOk_marked r p' (fun x hx => h x (by simp [hx])) (fun x hx => hq x (by simp [hx]))⟩
theorem nv_digits {q : Bs} (h0 : q ≠ []) (h : ∀ c ∈ q, isDig c = true) (b : Bool) : nv (lower q) b = dec (dval q) := by
  rw [lower_dig h, nv_dig h0 h, strip_dec q h0 h]
/-- Numbers but 0, with marks between. -/
theorem digit_pcs {p : Pc} {r : List Pc} (hm : p.m = []) (h : ∀ x ∈ r, x.m = [45] ∨ x.m = [46]) (hq : ∀ x ∈ p :: r, x.q ≠ [] ∧ (∀ c ∈ x.q, isDig c = true) ∧ dval x.q ≠ 0) :
    mvTokens (ptxt (p :: r)) = (p :: r).map fun x => ⟨x.m, dec (dval x.q), false⟩ := by
  rw [mvTokens_pcs hm (pcOk_marked r p h fun x hx => ⟨true, hom_dig (hq x hx).1 (hq x hx).2.1⟩), ptoks_marked r p [] h]
  have e : (⟨[], nv (lower p.q) false, false⟩ :: r.map fun x => ⟨x.m, nv (lower x.q) false, false⟩ : List Tok) = (p :: r).map fun x => ⟨x.m, dec (dval x.q), false⟩ := by
    rw [List.map_cons, hm]
    congr 1
    · rw [nv_digits (hq p (by simp)).1 (hq p (by simp)).2.1]
    · exact List.map_congr_left fun x hx => by rw [nv_digits (hq x (by simp [hx])).1 (hq x (by simp [hx])).2.1]
  rw [e]
  refine trimM_id _ (fun t ht => ?_)
  obtain ⟨x, hx, rfl⟩ := List.mem_map.1 ht
  rw [isNull_dec]; simpa using (hq x hx).2.2
theorem dvalA_zeros : ∀ (k : Nat), dvalA 0 (List.replicate k 48) = 0
  | 0 => rfl
  | k + 1 => by rw [List.replicate_succ, dvalA_cons]; exact dvalA_zeros k
theorem dval_zdec (k n : Nat) : dval (List.replicate k 48 ++ dec n) = n := by
  rw [dval, dvalA_append, dvalA_zeros]; exact dval_dec n

/-! ### Ends that count for nothing -/
def tailsL : List Bs := [[46, 48], [45, 48], [46, 103, 97], [45, 71, 65], [45, 102, 105, 110, 97, 108], [46, 70, 105, 110, 97, 108], [45, 114, 101, 108, 101, 97, 115, 101], [46, 82, 69, 76, 69, 65, 83, 69], [46, 48, 48]]
theorem tails_form : ∀ t ∈ tailsL, ∃ d w, t = d :: w ∧ isMark d = true ∧ ∃ z, tokL [d] [] (lower w) = [z] ∧ isNull z = true := by
  intro t ht
  simp only [tailsL, List.mem_cons, List.mem_nil_iff, or_false] at ht
  rcases ht with rfl | rfl | rfl | rfl | rfl | rfl | rfl | rfl | rfl <;> exact ⟨_, _, rfl, rfl, _, rfl, by decide⟩
/-- The tokens of a text before what counts for nothing goes. -/
def rawT (s : Bs) : List Tok := tokL [] [] (lower s)
theorem mv_raw (s : Bs) : mvTokens s = trimM (rawT s) := by rw [mvTokens, tokR_tokL]; rfl
theorem rawT_ne (s : Bs) : rawT s ≠ [] := by
  have : ∀ (r pre cur : Bs), tokL pre cur r ≠ [] := by
    intro r
    induction r with
    | nil => intro pre cur; simp [tokL]
    | cons c r ih => intro pre cur; rw [tokL]; split; simp; split; simp; exact ih _ _
  exact this _ _ _
theorem rawT_mark {d : UInt8} (hd : isMark d = true) (s w : Bs) : rawT (s ++ d :: w) = rawT s ++ tokL [d] [] (lower w) := by
  rw [rawT, lower_append, show lower (d :: w) = d :: lower w by rw [lower, List.map_cons, low_mark hd]; rfl, tokL_split _ _ hd]; rfl
theorem rawT_tails (s : Bs) : ∀ (ts : List Bs), (∀ t ∈ ts, t ∈ tailsL) → ∃ zs, rawT (s ++ ts.flatten) = rawT s ++ zs ∧ ∀ z ∈ zs, isNull z = true := by
  intro ts
  induction ts using rev_ind with
  | nil => intro _; exact ⟨[], by simp, by simp⟩
  | snoc ts t ih =>
    intro h
    obtain ⟨zs, h1, h2⟩ := ih (fun x hx => h x (by simp [hx]))
    obtain ⟨d, w, rfl, hd, z, hz, hn⟩ := tails_form t (h t (by simp))
    refine ⟨zs ++ [z], ?_, fun x hx => ?_⟩
    · rw [List.flatten_append, ← List.append_assoc, show List.flatten [d :: w] = d :: w by simp, rawT_mark hd, h1, hz, List.append_assoc]
    · rcases List.mem_append.1 hx with hx | hx
      · exact h2 x hx
      · simp at hx; subst hx; exact hn
theorem mv_tails (s : Bs) (ts : List Bs) (h : ∀ t ∈ ts, t ∈ tailsL) : mvTokens (s ++ ts.flatten) = mvTokens s := by
  obtain ⟨zs, h1, h2⟩ := rawT_tails s ts h
  rw [mv_raw, mv_raw, h1, trimM_nulls (rawT_ne s) zs h2]
theorem tokL_hom {d : UInt8} {q : Bs} {b : Bool} (h : Hom q b) : tokL [d] [] (lower q) = [⟨[d], nv (lower q) false, false⟩] := by
  have hl := hom_lower h
  have := tokL_word [d] b [] (lower q) [] hl.2 (.inl rfl)
  rw [List.append_nil] at this
  rw [this, List.nil_append, tokL]
theorem mv_inner (s : Bs) (ts : List Bs) (h : ∀ t ∈ ts, t ∈ tailsL) {w : Bs} {b : Bool} (hw : Hom w b) : mvTokens (s ++ ts.flatten ++ 45 :: w) = mvTokens (s ++ 45 :: w) := by
  rw [mv_raw, mv_raw, rawT_mark rfl, rawT_mark rfl, tokL_hom hw]
  exact trimM_two (rawT_ne _) (rawT_ne _) (by rw [← mv_raw, ← mv_raw, mv_tails s ts h]) rfl
theorem mv_ne (s : Bs) : mvTokens s ≠ [] := by rw [mv_raw]; exact trimM_ne _ (rawT_ne s)

/-! ### Letters -/
def isLet (c : UInt8) : Bool := (97 ≤ c && c ≤ 122) || (65 ≤ c && c ≤ 90)
def isWord (q : Bs) : Bool := !q.isEmpty && q.all isLet
theorem isLet_iff (c : UInt8) : isLet c = true ↔ (97 ≤ c.toNat ∧ c.toNat ≤ 122) ∨ (65 ≤ c.toNat ∧ c.toNat ≤ 90) := by
  simp only [isLet, Bool.or_eq_true, Bool.and_eq_true, decide_eq_true_eq, UInt8.le_iff_toNat_le]
  exact Iff.rfl
theorem isWord_iff (q : Bs) : isWord q = true ↔ q ≠ [] ∧ ∀ c ∈ q, isLet c = true := by
  cases q <;> simp [isWord]
theorem hom_word {q : Bs} (h : isWord q = true) : Hom q false := by
  rw [isWord_iff] at h
  refine ⟨h.1, fun c hc => ?_⟩
  have := (isLet_iff c).1 (h.2 c hc)
  constructor
  · cases hm : isMark c
    · rfl
    · have := (isMark_iff c).1 hm; omega
  · cases hm : isDig c
    · rfl
    · have := (isDig_iff c).1 hm; omega

/-! ### Numbers, and one piece behind a mark -/
theorem mv_num {l : List Nat} (hl : l ≠ []) : mvTokens (numTxt l) = trimM (numToks [] l) := by
  have := mvTokens_num hl [] trivial (by simp)
  rw [ptxt_nil, List.append_nil] at this
  rw [this]; simp [ptoks]
theorem raw_num {l : List Nat} (hl : l ≠ []) : rawT (numTxt l) = numToks [] l := by
  have := tokR_num hl [] trivial (by simp)
  rw [ptxt_nil, List.append_nil, tokR_tokL] at this
  rw [rawT, this]; simp [ptoks]
theorem mv_num_one {l : List Nat} (hl : l ≠ []) {d : UInt8} (hd : isMark d = true) {q : Bs} {b : Bool} (hq : Hom q b) : mvTokens (numTxt l ++ d :: q) = trimM (numToks [] l ++ [⟨[d], nv (lower q) false, false⟩]) := by
  rw [mv_raw, rawT_mark hd, raw_num hl, tokL_hom hq]

/-! ### Stages -/
def Plainw (q : Bs) : Prop := Hom q false ∧ nv (lower q) false = lower q ∧ kw (lower q) = 7 ∧ lower q ≠ []
def ends (q : Bs) : List Bs := [45 :: sAlpha, 45 :: sBeta, 45 :: sMile, 45 :: sRc, 45 :: sSnap, [], 45 :: sSp, 45 :: q, [45, 49], [46, 49]]
theorem dec_one : dec 1 = [49] := by rw [dec_lt (by decide)]; rfl
def sgn (i k : Nat) : Int := if i < k then -1 else if k < i then 1 else 0
theorem hom_lit {q : Bs} {b : Bool} (h : q ≠ [] ∧ q.all (fun c => !isMark c && (isDig c == b)) = true) : Hom q b := ⟨h.1, fun c hc => by
  have := List.all_eq_true.1 h.2 c hc
  simpa using this⟩
theorem allDig_no {q : Bs} (h : Hom q false) : allDig q = false := by
  cases hd : allDig q
  · rfl
  · have h1 := (allDig_iff q).1 hd
    obtain ⟨c, hc⟩ := List.exists_mem_of_ne_nil q h1.1
    have := (h.2 c hc).2
    rw [h1.2 c hc] at this; cases this
theorem hy_end {l : List Nat} (hl : l ≠ []) {a : List Nat} (ha : trimM (numToks [] l) = numToks [] a) {q : Bs} {b : Bool} (hq : Hom q b) (hn : nv (lower q) false ≠ [48] ∧ nv (lower q) false ≠ []) :
    mvTokens (numTxt l ++ 45 :: q) = numToks [] a ++ [⟨[45], nv (lower q) false, false⟩] := by
  rw [mv_num_one hl rfl hq, trimM_hy rfl (by simp [isNull, hn.1, hn.2]), ha]
theorem stage_end {l a : List Nat} {z : Nat} (hl : l = a ++ List.replicate z 0) (ha : Tz a) {q : Bs} (hq : Plainw q) (i : Nat) (hi : i < 10) :
    ∃ X, mvTokens (numTxt l ++ (ends q).getD i []) = numToks [] a ++ X ∧ ((i = 5 ∧ X = []) ∨ (i = 9 ∧ ∃ n r, X = numToks [46] (n :: r)) ∨ (i ≠ 5 ∧ i ≠ 9 ∧ ∃ t, X = [t] ∧ Hy t ∧ rk t = i)) := by
  have hl0 : l ≠ [] := by rw [hl]; simp [ha.1]
  have ht : trimM (numToks [] l) = numToks [] a := by rw [hl]; exact trimM_num ha z
  have H : ∀ (u : Bs) (b : Bool), Hom u b → nv (lower u) false ≠ [48] ∧ nv (lower u) false ≠ [] → ∀ j, rk ⟨[45], nv (lower u) false, false⟩ = j → j ≠ 5 → j ≠ 9 →
      ∃ X, mvTokens (numTxt l ++ 45 :: u) = numToks [] a ++ X ∧ ((j = 5 ∧ X = []) ∨ (j = 9 ∧ ∃ n r, X = numToks [46] (n :: r)) ∨ (j ≠ 5 ∧ j ≠ 9 ∧ ∃ t, X = [t] ∧ Hy t ∧ rk t = j)) := by
    intro u b hu hn j hj h5 h9
    exact ⟨_, hy_end hl0 ht hu hn, .inr (.inr ⟨h5, h9, _, rfl, ⟨rfl, fun _ => rfl⟩, hj⟩)⟩
  match i, hi with
  | 0, _ => exact H sAlpha false (hom_lit (by decide)) (by decide) 0 (by decide) (by decide) (by decide)
  | 1, _ => exact H sBeta false (hom_lit (by decide)) (by decide) 1 (by decide) (by decide) (by decide)
  | 2, _ => exact H sMile false (hom_lit (by decide)) (by decide) 2 (by decide) (by decide) (by decide)
  | 3, _ => exact H sRc false (hom_lit (by decide)) (by decide) 3 (by decide) (by decide) (by decide)
  | 4, _ => exact H sSnap false (hom_lit (by decide)) (by decide) 4 (by decide) (by decide) (by decide)
  | 5, _ => exact ⟨[], by show mvTokens (numTxt l ++ []) = _; rw [List.append_nil, List.append_nil, mv_num hl0, ht], .inl ⟨rfl, rfl⟩⟩
  | 6, _ => exact H sSp false (hom_lit (by decide)) (by decide) 6 (by decide) (by decide) (by decide)
  | 7, _ =>
    refine H q false hq.1 ?_ 7 ?_ (by decide) (by decide)
    · rw [hq.2.1]
      refine ⟨fun e => ?_, hq.2.2.2⟩
      have := (hom_lower hq.1).2 48 (by rw [e]; simp)
      exact absurd this.2 (by decide)
    · rw [rk, hq.2.1, allDig_no (hom_lower hq.1)]; simpa using hq.2.2.1
  | 8, _ => exact H [49] true (hom_lit (by decide)) (by decide) 8 (by decide) (by decide) (by decide)
  | 9, _ =>
    refine ⟨numToks [46] (List.replicate z 0 ++ [1]), ?_, .inr (.inl ⟨rfl, ?_⟩)⟩
    · show mvTokens (numTxt l ++ [46, 49]) = _
      have e : numTxt l ++ [46, 49] = numTxt (l ++ [1]) := by rw [numTxt_snoc 1 l hl0, dec_one]
      have hz : Tz (l ++ [1]) := ⟨by simp, .inr (by simp)⟩
      rw [e, mv_num (by simp)]
      have := trimM_num hz 0
      rw [List.replicate_zero, List.append_nil] at this
      rw [this, hl, List.append_assoc, numToks_append [] a _ ha.1]
    · cases z with
      | zero => exact ⟨1, [], rfl⟩
      | succ z => exact ⟨0, _, by rw [List.replicate_succ]; rfl⟩
/-- Of one version these come one behind the other. -/
theorem stage_cmp {l : List Nat} (hl : l ≠ []) {q : Bs} (hq : Plainw q) (i k : Nat) (hi : i < 10) (hk : k < 10) :
    vcmp (mvTokens (numTxt l ++ (ends q).getD i [])) (mvTokens (numTxt l ++ (ends q).getD k [])) = some (sgn i k) := by
  obtain ⟨a, z, h1, h2⟩ := tz_form l hl
  obtain ⟨X, e1, c1⟩ := stage_end h1 h2 hq i hi
  obtain ⟨Y, e2, c2⟩ := stage_end h1 h2 hq k hk
  by_cases hik : i = k
  · subst hik
    rw [vcmp_self, sgn, if_neg (by omega), if_neg (by omega)]
  · rw [e1, e2, vcmp_pre]
    rcases c1 with ⟨i5, rfl⟩ | ⟨i9, n, r, rfl⟩ | ⟨i5, i9, t, rfl, ht, hrt⟩
    · rcases c2 with ⟨k5, rfl⟩ | ⟨k9, n, r, rfl⟩ | ⟨k5, k9, u, rfl, hu, hru⟩
      · omega
      · -- nothing against a number more: through the whole versions
        have g := vcmp_pre (numToks [] a) [] (numToks [46] (n :: r))
        have hX := e2
        rw [← numToks_append [] a _ h2.1] at g hX
        rw [List.append_nil] at g
        rw [← g]
        have e9 : (ends q).getD k [] = [46, 49] := by subst k9; rfl
        rw [e9] at hX
        have e : numTxt l ++ [46, 49] = numTxt (l ++ [1]) := by rw [numTxt_snoc 1 l hl, dec_one]
        rw [e, mv_num (by simp)] at hX
        rw [← hX, ← trimM_num h2 z, ← h1, vcmp_num hl (by simp), sgn, if_pos (by omega)]
        congr 1
        have : ∀ (l : List Nat), cmpL l (l ++ [1]) = -1 := by
          intro l
          induction l with
          | nil => simp [cmpL]
          | cons x xs ih => rw [List.cons_append, cmpL, if_neg (by omega), if_neg (by omega), ih]
        exact this l
      · rcases Nat.lt_or_ge (rk u) 5 with h | h
        · rw [((vcmp_hy_none hu).1 h).2, sgn, if_neg (by omega), if_pos (by omega)]
        · rw [((vcmp_hy_none hu).2 (by omega)).2, sgn, if_pos (by omega)]
    · rcases c2 with ⟨k5, rfl⟩ | ⟨k9, n', r', rfl⟩ | ⟨k5, k9, u, rfl, hu, hru⟩
      · have g := vcmp_pre (numToks [] a) (numToks [46] (n :: r)) []
        have hX := e1
        rw [← numToks_append [] a _ h2.1] at g hX
        rw [List.append_nil] at g
        rw [← g]
        have e9 : (ends q).getD i [] = [46, 49] := by subst i9; rfl
        rw [e9] at hX
        have e : numTxt l ++ [46, 49] = numTxt (l ++ [1]) := by rw [numTxt_snoc 1 l hl, dec_one]
        rw [e, mv_num (by simp)] at hX
        rw [← hX, ← trimM_num h2 z, ← h1, vcmp_num (by simp) hl, sgn, if_neg (by omega), if_pos (by omega)]
        congr 1
        have : ∀ (l : List Nat), cmpL (l ++ [1]) l = 1 := by
          intro l
          induction l with
          | nil => simp [cmpL]
          | cons x xs ih => rw [List.cons_append, cmpL, if_neg (by omega), if_neg (by omega), ih]
        exact this l
      · omega
      · rw [(vcmp_hy_num hu.1 n r).2, sgn, if_neg (by omega), if_pos (by omega)]
    · rcases c2 with ⟨k5, rfl⟩ | ⟨k9, n', r', rfl⟩ | ⟨k5, k9, u, rfl, hu, hru⟩
      · rcases Nat.lt_or_ge (rk t) 5 with h | h
        · rw [((vcmp_hy_none ht).1 h).1, sgn, if_pos (by omega)]
        · rw [((vcmp_hy_none ht).2 (by omega)).1, sgn, if_neg (by omega), if_pos (by omega)]
      · rw [(vcmp_hy_num ht.1 n' r').1, sgn, if_pos (by omega)]
      · rcases Nat.lt_or_ge i k with h | h
        · rw [(vcmp_hy_hy ht hu (by omega)).1, sgn, if_pos h]
        · rw [(vcmp_hy_hy hu ht (by omega)).2, sgn, if_neg (by omega), if_pos (by omega)]
end Go.Proofs.Mv

/- Plain functions on Maven versions: normal form of what is parsed; aliases; service packs; great letters; no Go. -/
namespace Go.Proofs.Mv

/-! ### What is parsed is in normal form -/
theorem tokL_nvp : ∀ (r pre cur : Bs) (t : Tok), t ∈ tokL pre cur r → t.n = false ∧ ∃ q m, t.v = nv q m
  | [], pre, cur, t, h => by
    rw [tokL] at h; simp at h; subst h; exact ⟨rfl, _, _, rfl⟩
  | c :: r, pre, cur, t, h => by
    rw [tokL] at h
    split at h
    · rcases List.mem_cons.1 h with rfl | h
      · exact ⟨rfl, _, _, rfl⟩
      · exact tokL_nvp r _ _ t h
    · split at h
      · rcases List.mem_cons.1 h with rfl | h
        · exact ⟨rfl, _, _, rfl⟩
        · exact tokL_nvp r _ _ t h
      · exact tokL_nvp r _ _ t h
theorem tokL_cons : ∀ (r pre cur : Bs), ∃ v n xs, tokL pre cur r = ⟨pre, v, n⟩ :: xs ∧ ∀ t ∈ xs, t.p = [46] ∨ t.p = [45]
  | [], pre, cur => ⟨_, _, [], by rw [tokL], by simp⟩
  | c :: r, pre, cur => by
    rw [tokL]
    split
    · rename_i hc
      obtain ⟨v, n, xs, h1, h2⟩ := tokL_cons r [c] []
      refine ⟨_, _, _, rfl, fun t ht => ?_⟩
      rw [h1] at ht
      rcases List.mem_cons.1 ht with rfl | ht
      · have := (isMark_iff c).1 hc
        rcases this with h | h
        · right; show [c] = [45]; rw [show c = 45 from UInt8.toNat_inj.1 h]
        · left; show [c] = [46]; rw [show c = 46 from UInt8.toNat_inj.1 h]
      · exact h2 t ht
    · split
      · obtain ⟨v, n, xs, h1, h2⟩ := tokL_cons r [45] [c]
        refine ⟨_, _, _, rfl, fun t ht => ?_⟩
        rw [h1] at ht
        rcases List.mem_cons.1 ht with rfl | ht
        · exact .inr rfl
        · exact h2 t ht
      · exact tokL_cons r pre (cur ++ [c])
theorem dec_dval_dec (n : Nat) : dec n = dec (dval (dec n)) := by rw [dval_dec]
theorem nv_num_form (q : Bs) (m : Bool) (h : allDig (nv q m) = true) : nv q m = dec (dval (nv q m)) := by
  by_cases h0 : q = []
  · subst h0
    rw [show nv [] m = dec 0 by rw [dec_zero]; rfl]; exact dec_dval_dec 0
  · by_cases hd : allDig q = true
    · have h1 := (allDig_iff q).1 hd
      rw [nv_dig h1.1 h1.2, strip_dec q h1.1 h1.2]; exact dec_dval_dec _
    · exfalso
      unfold nv at h
      rw [if_neg h0, if_neg hd] at h
      repeat' split at h
      all_goals first | (exact absurd h (by decide)) | exact hd h
theorem trimM_form (l : List Tok) : (∃ z, l = trimM l ++ z ∨ True) ∧ (trimM l).head? = l.head? ∧ (∀ t ∈ trimM l, t ∈ l) ∧ ((trimM l).length ≤ 1 ∨ isNull ((trimM l).getLastD ⟨[], [], false⟩) = false) ∧ (∀ t ∈ (trimM l).tail, t ∈ l.tail) := by
  obtain ⟨n, hn⟩ : ∃ n, l.length = n := ⟨_, rfl⟩
  induction n using Nat.strongRecOn generalizing l with
  | _ n ih =>
    refine ⟨⟨[], .inr trivial⟩, ?_⟩
    by_cases hl : l.length ≤ 1
    · rw [trimM_short hl]; exact ⟨rfl, fun _ h => h, .inl hl, fun _ h => h⟩
    · obtain ⟨x, y, r, rfl⟩ : ∃ x y r, l = x :: y :: r := by
        match l, hl with
        | x :: y :: r, _ => exact ⟨x, y, r, rfl⟩
        | [], h => simp at h
        | [x], h => simp at h
      rw [trimM, if_neg hl]
      split
      · obtain ⟨_, h1, h2, h3, h4⟩ := ih (n - 1) (by simp at hn; omega) (x :: y :: r).dropLast (by simp at hn ⊢; omega)
        refine ⟨h1, fun t ht => List.dropLast_subset _ (h2 t ht), h3, fun t ht => ?_⟩
        have := h4 t ht
        rw [show (x :: y :: r).dropLast = x :: (y :: r).dropLast from rfl] at this
        exact List.dropLast_subset _ this
      · rename_i hnn
        have hnn : isNull ((x :: y :: r).getLastD ⟨[], [], false⟩) = false := by simpa using hnn
        split
        · exact ⟨rfl, fun _ h => h, .inr hnn, fun _ h => h⟩
        · rename_i k hk
          have hkl := lastHy_lt hk
          by_cases k0 : k = 0
          · rw [if_pos k0]; exact ⟨rfl, fun _ h => h, .inr hnn, fun _ h => h⟩
          · rw [if_neg k0]
            obtain ⟨_, h1, h2, h3, h4⟩ := ih k (by omega) ((x :: y :: r).take k) (by rw [List.length_take]; omega)
            obtain ⟨j, rfl⟩ : ∃ j, k = j + 1 := ⟨k - 1, by omega⟩
            rw [List.take_succ_cons] at h1 h2 h4 ⊢
            rw [List.head?_cons] at h1
            obtain ⟨A, hA⟩ : ∃ A, trimM (x :: (y :: r).take j) = x :: A := by
              cases hh : trimM (x :: (y :: r).take j) with
              | nil => rw [hh] at h1; cases h1
              | cons u A => rw [hh, List.head?_cons] at h1; injection h1 with h1; subst h1; exact ⟨A, rfl⟩
            rw [hA] at h2 h4 ⊢
            rw [List.drop_succ_cons]
            have hdne : (y :: r).drop j ≠ [] := by
              intro e
              have := congrArg List.length e
              rw [List.length_drop] at this
              simp at this hkl; omega
            refine ⟨rfl, fun t ht => ?_, .inr ?_, fun t ht => ?_⟩
            · rcases List.mem_append.1 ht with ht | ht
              · have := h2 t ht
                rcases List.mem_cons.1 this with rfl | h
                · simp
                · exact List.mem_cons_of_mem _ (List.mem_of_mem_take h)
              · exact List.mem_cons_of_mem _ (List.mem_of_mem_drop ht)
            · have e1 : (x :: A ++ (y :: r).drop j).getLastD ⟨[], [], false⟩ = ((y :: r).drop j).getLastD ⟨[], [], false⟩ := by
                rw [List.getLastD_eq_getLast?, List.getLastD_eq_getLast?, List.getLast?_append]
                cases hg : ((y :: r).drop j).getLast? with
                | none => exact absurd (List.getLast?_eq_none_iff.1 hg) hdne
                | some u => simp
              have e2 : (x :: y :: r).getLastD ⟨[], [], false⟩ = ((y :: r).drop j).getLastD ⟨[], [], false⟩ := by
                have e3 : x :: y :: r = (x :: (y :: r).take j) ++ (y :: r).drop j := by rw [List.cons_append, List.take_append_drop]
                rw [e3, List.getLastD_eq_getLast?, List.getLastD_eq_getLast?, List.getLast?_append]
                cases hg : ((y :: r).drop j).getLast? with
                | none => exact absurd (List.getLast?_eq_none_iff.1 hg) hdne
                | some u => simp
              rw [e1, ← e2]; exact hnn
            · rw [List.cons_append, List.tail_cons] at ht
              rw [List.tail_cons]
              rcases List.mem_append.1 ht with ht | ht
              · exact List.mem_of_mem_take (h4 t ht)
              · exact List.mem_of_mem_drop ht
theorem vers_mv (s : Bs) (h : ∀ t ∈ mvTokens s, allDig t.v = false → t.v = [] ∨ isLow (t.v.headD 0) = true) : Vers (mvTokens s) := by
  obtain ⟨_, h1, h2, h3, h4⟩ := trimM_form (rawT s)
  rw [← mv_raw] at h1 h2 h3 h4
  obtain ⟨v, n, xs, e, hx⟩ := tokL_cons (lower s) [] []
  have hr : rawT s = ⟨[], v, n⟩ :: xs := e
  rw [hr, List.head?_cons] at h1
  rw [hr, List.tail_cons] at h4
  have hg : ∀ t ∈ mvTokens s, Good t := by
    intro t ht
    obtain ⟨hn, q, m, hv⟩ := tokL_nvp _ _ _ t (h2 t ht)
    exact ⟨fun hd => by rw [hv] at hd ⊢; exact nv_num_form q m hd, h t ht, fun e => by rw [hn] at e; cases e⟩
  cases hm : mvTokens s with
  | nil => rw [hm] at h1; cases h1
  | cons x ys =>
    rw [hm] at hg h1 h3 h4
    rw [List.head?_cons] at h1
    injection h1 with h1
    refine ⟨x, ys, rfl, hg x (by simp), by rw [h1], fun t ht => ⟨hg t (by simp [ht]), hx t (h4 t ht)⟩, fun hne => ?_⟩
    rcases h3 with h3 | h3
    · simp only [List.length_cons] at h3
      exact absurd (List.length_eq_zero_iff.1 (by omega)) hne
    · cases ys with
      | nil => exact absurd rfl hne
      | cons y r => simpa using h3
theorem vers_known {s : Bs} (h : known (mvTokens s) = true) : Vers (mvTokens s) := by
  refine vers_mv s fun t ht hd => ?_
  have hk : tknown t = true := by
    cases hm : mvTokens s with
    | nil => rw [hm] at ht; simp at ht
    | cons x xs =>
      rw [hm] at h ht
      simp only [known, Bool.and_eq_true, List.all_eq_true] at h
      rcases List.mem_cons.1 ht with rfl | ht
      · exact h.1.1
      · exact (h.2 t ht).1
  unfold tknown at hk
  rw [hd] at hk
  split at hk
  · cases hk
  · simpa using hk

/-! ### Great letters -/
def up (c : UInt8) : UInt8 := if 97 ≤ c && c ≤ 122 then c - 32 else c
def upper (s : Bs) : Bs := s.map up
theorem low_up (c : UInt8) : low (up c) = low c ∧ up (low c) = up c := by
  have h1 : (97 : UInt8).toNat = 97 := rfl
  have h2 : (122 : UInt8).toNat = 122 := rfl
  have h3 : (65 : UInt8).toNat = 65 := rfl
  have h4 : (90 : UInt8).toNat = 90 := rfl
  have h5 : (32 : UInt8).toNat = 32 := rfl
  have key : ∀ a : UInt8, a.toNat < 256 := fun a => a.toNat_lt
  unfold low up
  simp only [Bool.and_eq_true, decide_eq_true_eq, UInt8.le_iff_toNat_le, h1, h2, h3, h4]
  have hc := key c
  by_cases a : 97 ≤ c.toNat ∧ c.toNat ≤ 122
  · have e : (c - 32).toNat = c.toNat - 32 := by rw [UInt8.toNat_sub_of_le _ _ (by rw [UInt8.le_iff_toNat_le, h5]; omega), h5]
    rw [if_pos a, if_neg (show ¬ (65 ≤ c.toNat ∧ c.toNat ≤ 90) by omega), if_pos a, e, if_pos (by omega)]
    exact ⟨UInt8.toNat_inj.1 (by rw [UInt8.toNat_add, e, h5]; omega), rfl⟩
  · rw [if_neg a]
    by_cases b : 65 ≤ c.toNat ∧ c.toNat ≤ 90
    · have e : (c + 32).toNat = c.toNat + 32 := by rw [UInt8.toNat_add, h5]; omega
      rw [if_pos b, e, if_pos (by omega)]
      exact ⟨rfl, UInt8.toNat_inj.1 (by rw [UInt8.toNat_sub_of_le _ _ (by rw [UInt8.le_iff_toNat_le, e, h5]; omega), e, h5]; omega)⟩
    · rw [if_neg b, if_neg a]; exact ⟨rfl, rfl⟩
theorem lower_upper (s : Bs) : lower (upper s) = lower s := by
  unfold lower upper
  rw [List.map_map]
  exact List.map_congr_left fun c _ => (low_up c).1
theorem upper_lower (s : Bs) : upper (lower s) = upper s := by
  unfold lower upper
  rw [List.map_map]
  exact List.map_congr_left fun c _ => (low_up c).2
theorem mv_upper (s : Bs) : mvTokens (upper s) = mvTokens s := by rw [mv_raw, mv_raw, rawT, rawT, lower_upper]
/-- The words that no stage's word may be. -/
def stageW : List Bs := [[65], [66], [77], upper sAlpha, upper sBeta, upper sMile, upper sRc, upper sCr, upper sSnap, upper sSp, upper sGa, upper sFinal, upper sRelease]
theorem plainw_of {q : Bs} (h : isWord q = true) (hn : upper q ∉ stageW) : Plainw q := by
  have hh := hom_word h
  have hl := hom_lower hh
  have ne : ∀ x, upper x ∈ stageW → lower q ≠ x := by
    intro x hx e
    apply hn
    rw [← upper_lower q, e]; exact hx
  have m : ∀ x ∈ [sAlpha, sBeta, sMile, sRc, sCr, sSnap, sSp, sGa, sFinal, sRelease], lower q ≠ x := by
    intro x hx
    refine ne x ?_
    simp only [List.mem_cons, List.mem_nil_iff, or_false] at hx
    rcases hx with rfl | rfl | rfl | rfl | rfl | rfl | rfl | rfl | rfl | rfl <;> decide
  refine ⟨hh, ?_, ?_, hl.1⟩
  · unfold nv
    rw [if_neg hl.1, if_neg (by rw [allDig_no hl]; decide), if_neg (m sCr (by simp)), if_neg (by rintro (e | e | e); exact m sGa (by simp) e; exact m sFinal (by simp) e; exact m sRelease (by simp) e)]
    simp
  · unfold kw
    rw [if_neg (m sAlpha (by simp)), if_neg (m sBeta (by simp)), if_neg (m sMile (by simp)), if_neg (m sRc (by simp)), if_neg (m sSnap (by simp)), if_neg hl.1, if_neg (m sSp (by simp))]

/-! ### Aliases -/
theorem lower_lit {q : Bs} (h : q.all (fun c => low c == c) = true) : lower q = q := by
  unfold lower
  refine (List.map_congr_left (g := id) fun c hc => ?_).trans (by simp)
  have := List.all_eq_true.1 h c hc
  simpa using this
/-- A letter or a word, and a number glued to it. -/
theorem alias_one {l : List Nat} (hl : l ≠ []) {q x : Bs} (hq : Hom q false) (hx : nv (lower q) true = x) (m : Bs) (hm : m = [] ∨ m = [45]) (n : Nat) :
    mvTokens (numTxt l ++ (m ++ q ++ dec n)) = trimM (numToks [] l ++ [⟨[45], x, false⟩, ⟨[45], dec n, false⟩]) := by
  have h := mvTokens_num hl [⟨m, q⟩, ⟨[], dec n⟩] ⟨⟨false, hq, .inl ⟨rfl, hom_dec n⟩⟩, ⟨⟨true, hom_dec n, trivial⟩, trivial⟩⟩ (by
    intro p r e
    injection e with e _
    subst e
    rcases hm with rfl | rfl
    · exact .inl ⟨rfl, hq⟩
    · exact .inr (.inl rfl))
  rw [show numTxt l ++ (m ++ q ++ dec n) = numTxt l ++ ptxt [⟨m, q⟩, ⟨[], dec n⟩] by simp [ptxt], h]
  congr 2
  have e : (if m = [] then ([45] : Bs) else m) = [45] := by rcases hm with rfl | rfl <;> rfl
  show ptoks (if m = [] then [45] else m) _ = _
  rw [e]
  simp [ptoks, nx, gl, hx, nv_dec]
theorem alias_two {l : List Nat} (hl : l ≠ []) {q x : Bs} (hq : Hom q false) (hx : nv (lower q) false = x) (n : Nat) :
    mvTokens (numTxt l ++ (45 :: q ++ 45 :: dec n)) = trimM (numToks [] l ++ [⟨[45], x, false⟩, ⟨[45], dec n, false⟩]) := by
  have h := mvTokens_num hl [⟨[45], q⟩, ⟨[45], dec n⟩] ⟨⟨false, hq, .inr (.inl rfl)⟩, ⟨⟨true, hom_dec n, trivial⟩, trivial⟩⟩ (by
    intro p r e
    injection e with e _
    subst e
    exact .inr (.inl rfl))
  rw [show numTxt l ++ (45 :: q ++ 45 :: dec n) = numTxt l ++ ptxt [⟨[45], q⟩, ⟨[45], dec n⟩] by simp [ptxt], h]
  congr 2
  simp [ptoks, nx, gl, hx, nv_dec]
/-- The pairs of aliases: what stands behind the core. -/
def aliases (k : Bs) : List (Bs × Bs) :=
  [([97] ++ k, 45 :: sAlpha ++ 45 :: k), ([98] ++ k, 45 :: sBeta ++ 45 :: k), ([109] ++ k, 45 :: sMile ++ 45 :: k), (45 :: sCr ++ k, 45 :: sRc ++ 45 :: k),
   (45 :: sGa, []), (45 :: sFinal, []), ([45, 82, 69, 76, 69, 65, 83, 69], []), ([46, 48], []), ([45, 48], []), (45 :: sAlpha ++ k, 45 :: sAlpha ++ 45 :: k)]
theorem mv_end {s : Bs} {d : UInt8} {q : Bs} (hd : isMark d = true) (b : Bool) (hq : Hom q b) (hn : nv (lower q) false = [48] ∨ nv (lower q) false = []) : mvTokens (s ++ d :: q) = mvTokens s := by
  rw [mv_raw, mv_raw, rawT_mark hd, tokL_hom hq, trimM_null (rawT_ne s)]
  unfold isNull
  rcases hn with h | h <;> simp [h]
theorem alias_eq {l : List Nat} (hl : l ≠ []) (n : Nat) : ∀ p ∈ aliases (dec n), mvTokens (numTxt l ++ p.1) = mvTokens (numTxt l ++ p.2) := by
  intro p hp
  simp only [aliases, List.mem_cons, List.mem_nil_iff, or_false] at hp
  rcases hp with rfl | rfl | rfl | rfl | rfl | rfl | rfl | rfl | rfl | rfl
  · exact (alias_one hl (q := [97]) (hom_lit (by decide)) (x := sAlpha) (by decide) [] (.inl rfl) n).trans (alias_two hl (q := sAlpha) (hom_lit (by decide)) (by decide) n).symm
  · exact (alias_one hl (q := [98]) (hom_lit (by decide)) (x := sBeta) (by decide) [] (.inl rfl) n).trans (alias_two hl (q := sBeta) (hom_lit (by decide)) (by decide) n).symm
  · exact (alias_one hl (q := [109]) (hom_lit (by decide)) (x := sMile) (by decide) [] (.inl rfl) n).trans (alias_two hl (q := sMile) (hom_lit (by decide)) (by decide) n).symm
  · exact (alias_one hl (q := sCr) (hom_lit (by decide)) (x := sRc) (by decide) [45] (.inr rfl) n).trans (alias_two hl (q := sRc) (hom_lit (by decide)) (by decide) n).symm
  · show mvTokens (numTxt l ++ 45 :: sGa) = mvTokens (numTxt l ++ [])
    rw [List.append_nil]; exact mv_end rfl false (hom_lit (by decide)) (by decide)
  · show mvTokens (numTxt l ++ 45 :: sFinal) = mvTokens (numTxt l ++ [])
    rw [List.append_nil]; exact mv_end rfl false (hom_lit (by decide)) (by decide)
  · show mvTokens (numTxt l ++ 45 :: [82, 69, 76, 69, 65, 83, 69]) = mvTokens (numTxt l ++ [])
    rw [List.append_nil]; exact mv_end rfl false (hom_lit (by decide)) (by decide)
  · show mvTokens (numTxt l ++ 46 :: [48]) = mvTokens (numTxt l ++ [])
    rw [List.append_nil]; exact mv_end rfl true (hom_lit (by decide)) (by decide)
  · show mvTokens (numTxt l ++ 45 :: [48]) = mvTokens (numTxt l ++ [])
    rw [List.append_nil]; exact mv_end rfl true (hom_lit (by decide)) (by decide)
  · exact (alias_one hl (q := sAlpha) (hom_lit (by decide)) (x := sAlpha) (by decide) [45] (.inr rfl) n).trans (alias_two hl (q := sAlpha) (hom_lit (by decide)) (by decide) n).symm

/-! ### Service packs -/
theorem numToks_val : ∀ (l : List Nat) (p : Bs), ∀ t ∈ numToks p l, allDig t.v = true
  | [], _, t, h => by simp [numToks] at h
  | n :: r, p, t, h => by
    rcases List.mem_cons.1 h with rfl | h
    · exact allDig_dec n
    · exact numToks_val r [46] t h
theorem vers_num {l : List Nat} (hl : l ≠ []) : Vers (mvTokens (numTxt l)) := by
  refine vers_mv _ fun t ht hd => ?_
  have := (trimM_form (rawT (numTxt l))).2.2.1 t (by rw [← mv_raw]; exact ht)
  rw [raw_num hl] at this
  rw [numToks_val l [] t this] at hd; cases hd
theorem nv_sp (b : Bool) : nv (lower sSp) b = sSp := by cases b <;> decide
theorem vers_pack {l : List Nat} (hl : l ≠ []) {d : UInt8} (hd : isMark d = true) : Vers (mvTokens (numTxt l ++ d :: sSp)) := by
  refine vers_mv _ fun t ht hn => ?_
  have := (trimM_form (rawT (numTxt l ++ d :: sSp))).2.2.1 t (by rw [← mv_raw]; exact ht)
  rw [rawT_mark hd, raw_num hl, tokL_hom (q := sSp) (b := false) (hom_lit (by decide)), nv_sp] at this
  rcases List.mem_append.1 this with h | h
  · rw [numToks_val l [] t h] at hn; cases hn
  · simp at h; subst h; right; rfl
/-- A service pack is ahead of what has a number more. -/
theorem pack_less {l : List Nat} (hl : l ≠ []) {d : UInt8} (hd : isMark d = true) : vcmp (mvTokens (numTxt l ++ d :: sSp)) (mvTokens (numTxt l ++ [46, 49])) = some (-1) := by
  obtain ⟨a, z, h1, h2⟩ := tz_form l hl
  have ht : trimM (numToks [] l) = numToks [] a := by rw [h1]; exact trimM_num h2 z
  have e : numTxt l ++ [46, 49] = numTxt (l ++ [1]) := by rw [numTxt_snoc 1 l hl, dec_one]
  have hz : Tz (l ++ [1]) := ⟨by simp, .inr (by simp)⟩
  have hR : mvTokens (numTxt (l ++ [1])) = numToks [] l ++ numToks [46] [1] := by
    rw [mv_num (by simp)]
    have := trimM_num hz 0
    rw [List.replicate_zero, List.append_nil] at this
    rw [this, numToks_append [] l _ hl]
  rcases (isMark_iff d).1 hd with h | h
  · obtain rfl : d = 45 := UInt8.toNat_inj.1 h
    rw [hy_end hl ht (q := sSp) (b := false) (hom_lit (by decide)) (by decide), nv_sp, e, hR, h1, numToks_append [] a _ h2.1, List.append_assoc, vcmp_pre]
    cases z with
    | zero => exact (vcmp_hy_num rfl 1 []).1
    | succ z =>
      rw [List.replicate_succ, numToks, List.cons_append]
      have := (vcmp_hy_num (a := ⟨[45], sSp, false⟩) rfl 0 (List.replicate z 0 ++ [1])).1
      rw [numToks] at this
      have e3 : numToks [46] (List.replicate z 0) ++ numToks [46] [1] = numToks [46] (List.replicate z 0 ++ [1]) := by
        cases z with
        | zero => rfl
        | succ z => rw [numToks_append [46] _ _ (by simp)]
      rw [e3]; exact this
  · obtain rfl : d = 46 := UInt8.toNat_inj.1 h
    rw [mv_num_one hl rfl (q := sSp) (b := false) (hom_lit (by decide)), nv_sp, trimM_pt (numToks_p l [] (by decide)) (by decide) (by decide), e, hR, vcmp_pre, numToks, dec_one]
    have t1 : teq ⟨[46], sSp, false⟩ ⟨[46], [49], false⟩ = false := by decide
    have l1 : tless ⟨[46], sSp, false⟩ ⟨[46], [49], false⟩ = some true := by decide
    simp [numToks, vcmp, veq, vless, t1, l1]
end Go.Proofs.Mv
