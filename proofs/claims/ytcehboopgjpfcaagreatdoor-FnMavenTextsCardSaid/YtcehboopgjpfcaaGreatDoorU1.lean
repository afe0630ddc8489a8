/- Words of numbers: rows, products and division by one word. -/
import Derived.Test.YtcehboopgjpfcaaGreatDoorPB
import Derived.Test.YtcehboopgjpfcaaGreatDoorS1
import Derived.Test.YtcehboopgjpfcaaGreatDoorAA
import Derived.Test.YtcehboopgjpfcaaGreatDoorBA
import Derived.Test.YtcehboopgjpfcaaGreatDoorCA
import Derived.BigQuiet
import Derived.Deep.QuietTactic
import Derived.WalkSpells
import Derived.Lib.SliceRun
import Derived.Laws.CopyRow
/- Plain laws of rows of words with a carry: sums, differences, products added, shifts by one; no Go. -/
namespace Go.Proofs.Mv

/-- Word by word with a carry: f gives the word, g the carry. -/
def carL {α : Type} (f g : α → Nat → Nat) : Nat → List α → List Nat × Nat
  | c, [] => ([], c)
  | c, a :: l => (f a c :: (carL f g (g a c) l).1, (carL f g (g a c) l).2)
theorem carL_len {α : Type} (f g : α → Nat → Nat) : ∀ (l : List α) (c : Nat), (carL f g c l).1.length = l.length
  | [], _ => rfl
  | a :: l, c => by rw [carL]; simp [carL_len f g l]
theorem carL_snoc {α : Type} (f g : α → Nat → Nat) (x : α) : ∀ (l : List α) (c : Nat), carL f g c (l ++ [x]) = ((carL f g c l).1 ++ [f x (carL f g c l).2], g x (carL f g c l).2)
  | [], c => by simp [carL]
  | a :: l, c => by rw [List.cons_append, carL, carL_snoc f g x l (g a c), carL]; simp
theorem carL_step {α : Type} (f g : α → Nat → Nat) (l : List α) (c : Nat) {k : Nat} {a : α} (h : l[k]? = some a) :
    (carL f g c (l.take (k + 1))).1 = (carL f g c (l.take k)).1 ++ [f a (carL f g c (l.take k)).2] ∧ (carL f g c (l.take (k + 1))).2 = g a (carL f g c (l.take k)).2 := by
  obtain ⟨hk, he⟩ := List.getElem?_eq_some_iff.1 h
  rw [List.take_succ_eq_append_getElem hk, he, carL_snoc]
  exact ⟨rfl, rfl⟩
theorem carL_val {α : Type} {f g : α → Nat → Nat} {F : α → Nat} (h : ∀ a c, f a c + WB * g a c = F a + c) : ∀ (l : List α) (c : Nat), val (carL f g c l).1 + WB ^ l.length * (carL f g c l).2 = val (l.map F) + c
  | [], c => by simp [carL, val_nil]
  | a :: l, c => by
    have ih := carL_val h l (g a c)
    have ha := h a c
    rw [carL]
    simp only [val_cons, List.length_cons, List.map_cons]
    have e1 : WB ^ (l.length + 1) * (carL f g (g a c) l).2 = WB * (WB ^ l.length * (carL f g (g a c) l).2) := by
      rw [Nat.pow_succ, Nat.mul_comm (WB ^ l.length) WB, Nat.mul_assoc]
    rw [e1, Nat.add_assoc, ← Nat.mul_add, ih, Nat.mul_add]
    omega
theorem carL_ws {α : Type} {f g : α → Nat → Nat} (h : ∀ a c, f a c < WB) : ∀ (l : List α) (c : Nat), Ws (carL f g c l).1
  | [], _ => Ws.nil
  | a :: l, c => by rw [carL]; exact Ws.mk (h a c) (carL_ws h l _)
theorem val_map_add {α : Type} (p q : α → Nat) : ∀ (l : List α), val (l.map fun a => p a + q a) = val (l.map p) + val (l.map q)
  | [] => rfl
  | a :: l => by
    simp only [List.map_cons, val_cons]
    rw [val_map_add p q l, Nat.mul_add]; omega
theorem val_map_mul {α : Type} (m : Nat) (p : α → Nat) : ∀ (l : List α), val (l.map fun a => p a * m) = m * val (l.map p)
  | [] => rfl
  | a :: l => by
    simp only [List.map_cons, val_cons]
    rw [val_map_mul m p l, Nat.mul_add, ← Nat.mul_assoc, ← Nat.mul_assoc, Nat.mul_comm WB m, Nat.mul_comm (p a) m]
theorem zip_fst {xs ys : List Nat} (h : xs.length = ys.length) : (xs.zip ys).map (fun a => a.1) = xs := by
  have := List.map_fst_zip (l₁ := xs) (l₂ := ys) (by omega)
  exact this
theorem zip_snd {xs ys : List Nat} (h : xs.length = ys.length) : (xs.zip ys).map (fun a => a.2) = ys := by
  have := List.map_snd_zip (l₁ := xs) (l₂ := ys) (by omega)
  exact this

/-! ### Sums -/
def fAdd (a : Nat × Nat) (c : Nat) : Nat := (a.1 + a.2 + c) % WB
def gAdd (a : Nat × Nat) (c : Nat) : Nat := (a.1 + a.2 + c) / WB
def addL (xs ys : List Nat) : List Nat × Nat := carL fAdd gAdd 0 (xs.zip ys)
theorem addL_val {xs ys : List Nat} (h : xs.length = ys.length) : val (addL xs ys).1 + WB ^ xs.length * (addL xs ys).2 = val xs + val ys := by
  have := carL_val (f := fAdd) (g := gAdd) (F := fun a => a.1 + a.2) (fun a c => by unfold fAdd gAdd; exact Nat.mod_add_div _ _) (xs.zip ys) 0
  rw [val_map_add, zip_fst h, zip_snd h, List.length_zip, ← h, Nat.min_self] at this
  exact this
theorem addL_ws (xs ys : List Nat) : Ws (addL xs ys).1 := carL_ws (fun _ _ => Nat.mod_lt _ WB_pos) _ _
theorem addL_len {xs ys : List Nat} (h : xs.length = ys.length) : (addL xs ys).1.length = xs.length := by
  rw [addL, carL_len, List.length_zip, ← h, Nat.min_self]
theorem zip_lt {xs ys : List Nat} (hx : Ws xs) (hy : Ws ys) {a : Nat × Nat} (h : a ∈ xs.zip ys) : a.1 < WB ∧ a.2 < WB := by
  obtain ⟨h1, h2⟩ := List.of_mem_zip (a := a.1) (b := a.2) h
  exact ⟨hx _ h1, hy _ h2⟩
theorem carL_le {α : Type} {f g : α → Nat → Nat} : ∀ {l : List α} {c : Nat}, (∀ a ∈ l, ∀ c, c ≤ 1 → g a c ≤ 1) → c ≤ 1 → (carL f g c l).2 ≤ 1
  | [], _, _, hc => hc
  | a :: l, c, h, hc => by rw [carL]; exact carL_le (fun x hx => h x (by simp [hx])) (h a (by simp) c hc)
theorem gAdd_le {a : Nat × Nat} (h1 : a.1 < WB) (h2 : a.2 < WB) {c : Nat} (hc : c ≤ 1) : gAdd a c ≤ 1 := by
  unfold gAdd
  have : (a.1 + a.2 + c) / WB < 2 := (Nat.div_lt_iff_lt_mul WB_pos).2 (by omega)
  omega
theorem addL_carry {xs ys : List Nat} (hx : Ws xs) (hy : Ws ys) : (addL xs ys).2 ≤ 1 := carL_le (fun _ ha _ hc => gAdd_le (zip_lt hx hy ha).1 (zip_lt hx hy ha).2 hc) (by omega)

/-! ### Differences -/
def fSub (a : Nat × Nat) (c : Nat) : Nat := (a.1 + WB - a.2 - c) % WB
def gSub (a : Nat × Nat) (c : Nat) : Nat := if a.1 < a.2 + c then 1 else 0
def subL (xs ys : List Nat) : List Nat × Nat := carL fSub gSub 0 (xs.zip ys)
theorem gSub_le (a : Nat × Nat) (c : Nat) : gSub a c ≤ 1 := by unfold gSub; split <;> omega
theorem sub_step {x y c : Nat} (hx : x < WB) (hy : y < WB) (hc : c ≤ 1) : fSub (x, y) c + y + c = x + WB * gSub (x, y) c := by
  unfold fSub gSub
  have hB := WB_pos
  by_cases h : x < y + c
  · rw [if_pos h, Nat.mod_eq_of_lt (by simp only; omega)]; simp only; omega
  · rw [if_neg h, show x + WB - y - c = x - y - c + WB by omega, Nat.add_mod_right, Nat.mod_eq_of_lt (by omega)]; omega
theorem sub_val : ∀ (l : List (Nat × Nat)) (c : Nat), (∀ a ∈ l, a.1 < WB ∧ a.2 < WB) → c ≤ 1 → val (carL fSub gSub c l).1 + val (l.map fun a => a.2) + c = val (l.map fun a => a.1) + WB ^ l.length * (carL fSub gSub c l).2
  | [], c, _, _ => by simp [carL, val_nil]
  | a :: l, c, h, hc => by
    have ih := sub_val l (gSub a c) (fun x hx => h x (by simp [hx])) (gSub_le a c)
    have ha := sub_step (h a (by simp)).1 (h a (by simp)).2 hc
    rw [carL]
    simp only [val_cons, List.length_cons, List.map_cons]
    have e1 : WB ^ (l.length + 1) * (carL fSub gSub (gSub a c) l).2 = WB * (WB ^ l.length * (carL fSub gSub (gSub a c) l).2) := by
      rw [Nat.pow_succ, Nat.mul_comm (WB ^ l.length) WB, Nat.mul_assoc]
    rw [e1]
    have e2 := congrArg (WB * ·) ih
    simp only [Nat.mul_add] at e2
    have e3 : fSub a c + a.2 + c = a.1 + WB * gSub a c := ha
    omega
theorem subL_val {xs ys : List Nat} (h : xs.length = ys.length) (hx : Ws xs) (hy : Ws ys) : val (subL xs ys).1 + val ys = val xs + WB ^ xs.length * (subL xs ys).2 := by
  have := sub_val (xs.zip ys) 0 (fun a ha => zip_lt hx hy ha) (by omega)
  rw [zip_fst h, zip_snd h, List.length_zip, ← h, Nat.min_self, Nat.add_zero] at this
  exact this
theorem subL_ws (xs ys : List Nat) : Ws (subL xs ys).1 := carL_ws (fun _ _ => Nat.mod_lt _ WB_pos) _ _
theorem subL_len {xs ys : List Nat} (h : xs.length = ys.length) : (subL xs ys).1.length = xs.length := by
  rw [subL, carL_len, List.length_zip, ← h, Nat.min_self]
theorem subL_borrow (xs ys : List Nat) : (subL xs ys).2 ≤ 1 := carL_le (fun a _ c _ => gSub_le a c) (by omega)

/-! ### Products added -/
def fMul (m : Nat) (a : Nat × Nat) (c : Nat) : Nat := (a.2 * m + a.1 + c) % WB
def gMul (m : Nat) (a : Nat × Nat) (c : Nat) : Nat := (a.2 * m + a.1 + c) / WB
def addMulL (m : Nat) (zs ys : List Nat) : List Nat × Nat := carL (fMul m) (gMul m) 0 (zs.zip ys)
theorem addMulL_val (m : Nat) {zs ys : List Nat} (h : zs.length = ys.length) : val (addMulL m zs ys).1 + WB ^ zs.length * (addMulL m zs ys).2 = val zs + m * val ys := by
  have := carL_val (f := fMul m) (g := gMul m) (F := fun a => a.2 * m + a.1) (fun a c => by unfold fMul gMul; exact Nat.mod_add_div _ _) (zs.zip ys) 0
  rw [val_map_add (fun a : Nat × Nat => a.2 * m) (fun a => a.1), val_map_mul m (fun a : Nat × Nat => a.2), zip_fst h, zip_snd h, List.length_zip, ← h, Nat.min_self] at this
  rw [addMulL]; omega
theorem addMulL_ws (m : Nat) (zs ys : List Nat) : Ws (addMulL m zs ys).1 := carL_ws (fun _ _ => Nat.mod_lt _ WB_pos) _ _
theorem addMulL_len (m : Nat) {zs ys : List Nat} (h : zs.length = ys.length) : (addMulL m zs ys).1.length = zs.length := by
  rw [addMulL, carL_len, List.length_zip, ← h, Nat.min_self]
theorem gMul_lt {m : Nat} (hm : m < WB) {a : Nat × Nat} (h1 : a.1 < WB) (h2 : a.2 < WB) {c : Nat} (hc : c < WB) : gMul m a c < WB := by
  unfold gMul
  rw [Nat.div_lt_iff_lt_mul WB_pos]
  have : a.2 * m ≤ (WB - 1) * (WB - 1) := Nat.mul_le_mul (by omega) (by omega)
  have : (WB - 1) * (WB - 1) + WB + WB ≤ WB * WB + 1 := by unfold WB; omega
  omega
theorem carL_lt {α : Type} {f g : α → Nat → Nat} : ∀ {l : List α} {c : Nat}, (∀ a ∈ l, ∀ c, c < WB → g a c < WB) → c < WB → (carL f g c l).2 < WB
  | [], _, _, hc => hc
  | a :: l, c, h, hc => by rw [carL]; exact carL_lt (fun x hx => h x (by simp [hx])) (h a (by simp) c hc)
theorem addMulL_carry {m : Nat} (hm : m < WB) {zs ys : List Nat} (hz : Ws zs) (hy : Ws ys) : (addMulL m zs ys).2 < WB :=
  carL_lt (fun _ ha _ hc => gMul_lt hm (zip_lt hz hy ha).1 (zip_lt hz hy ha).2 hc) WB_pos

/-! ### Shifts by one -/
def HB : Nat := 9223372036854775808
/-- Shifted to the left by one; c comes in below. -/
def shlL (c : Nat) (xs : List Nat) : List Nat × Nat := carL (fun x c => (2 * x + c) % WB) (fun x c => (2 * x + c) / WB) c xs
theorem shlL_val (c : Nat) (xs : List Nat) : val (shlL c xs).1 + WB ^ xs.length * (shlL c xs).2 = 2 * val xs + c := by
  have := carL_val (f := fun x c => (2 * x + c) % WB) (g := fun x c => (2 * x + c) / WB) (F := fun x => x * 2) (fun a c => by rw [Nat.mul_comm a 2]; exact Nat.mod_add_div _ _) xs c
  rw [val_map_mul 2 (fun x => x), List.map_id'] at this
  exact this
theorem shlL_len (c : Nat) (xs : List Nat) : (shlL c xs).1.length = xs.length := carL_len _ _ _ _
theorem shlL_ws (c : Nat) (xs : List Nat) : Ws (shlL c xs).1 := carL_ws (fun _ _ => Nat.mod_lt _ WB_pos) _ _
theorem shl_carry {x c : Nat} (_hx : x < WB) (hc : c ≤ 1) : (2 * x + c) / WB = x / HB ∧ (2 * x + c) % WB = 2 * x % WB + c := by
  unfold WB HB at *; omega
/-- Shifted to the right by one. -/
def shrL : List Nat → List Nat
  | [] => []
  | x :: r => (x / 2 + (r.headD 0 % 2) * HB) :: shrL r
theorem shrL_len : ∀ (xs : List Nat), (shrL xs).length = xs.length
  | [] => rfl
  | x :: r => by rw [shrL]; simp [shrL_len r]
theorem val_mod_two (r : List Nat) : val r % 2 = r.headD 0 % 2 := by
  cases r with
  | nil => rfl
  | cons x r => rw [val_cons, List.headD_cons]; unfold WB; omega
theorem shrL_val : ∀ (xs : List Nat), val (shrL xs) = val xs / 2
  | [] => rfl
  | x :: r => by
    rw [shrL, val_cons, val_cons, shrL_val r, ← val_mod_two r]
    have := Nat.div_add_mod (val r) 2
    unfold WB HB; omega
theorem shrL_ws : ∀ {xs : List Nat}, Ws xs → Ws (shrL xs)
  | [], _ => Ws.nil
  | x :: r, h => by
    rw [shrL]
    refine Ws.mk ?_ (shrL_ws h.cons.2)
    have := h.cons.1
    have h2 := Nat.mod_lt (r.headD 0) (by decide : 0 < 2)
    unfold WB HB at *; omega
theorem shrL_get : ∀ {xs : List Nat} {i x : Nat}, xs[i]? = some x → (shrL xs)[i]? = some (x / 2 + ((xs[i + 1]?).getD 0 % 2) * HB)
  | [], _, _, h => by simp at h
  | y :: r, 0, x, h => by
    simp only [List.getElem?_cons_zero, Option.some.injEq] at h
    subst h
    rw [shrL]
    cases r <;> simp
  | y :: r, i + 1, x, h => by
    simp only [List.getElem?_cons_succ] at h
    rw [shrL]
    simpa using shrL_get h
theorem shlL_get : ∀ {xs : List Nat} {i x c : Nat}, Ws xs → c ≤ 1 → xs[i]? = some x → (shlL c xs).1[i]? = some (2 * x % WB + (if i = 0 then c else (xs[i - 1]?).getD 0 / HB))
  | [], _, _, _, _, _, h => by simp at h
  | y :: r, 0, x, c, hw, hc, h => by
    simp only [List.getElem?_cons_zero, Option.some.injEq] at h
    subst h
    rw [shlL, carL]
    simp only [List.getElem?_cons_zero, if_true]
    rw [(shl_carry hw.cons.1 hc).2]
  | y :: r, i + 1, x, c, hw, hc, h => by
    simp only [List.getElem?_cons_succ] at h
    have hc' : (2 * y + c) / WB ≤ 1 := by have := hw.cons.1; unfold WB at *; omega
    have ih := shlL_get (c := (2 * y + c) / WB) hw.cons.2 hc' h
    rw [shlL, carL]
    simp only [List.getElem?_cons_succ, Nat.add_sub_cancel, Nat.add_one_ne_zero, if_false]
    rw [show (carL (fun x c => (2 * x + c) % WB) (fun x c => (2 * x + c) / WB) ((2 * y + c) / WB) r).1 = (shlL ((2 * y + c) / WB) r).1 from rfl, ih]
    cases i with
    | zero => simp [(shl_carry hw.cons.1 hc).1]
    | succ i => simp
/-- What is carried out: the top bit of the last word. -/
theorem shlL_out {xs : List Nat} {x : Nat} (hw : Ws (xs ++ [x])) : (shlL 0 (xs ++ [x])).2 = x / HB := by
  have hx : x < WB := hw x (by simp)
  rw [shlL, carL_snoc]
  have hc : (carL (fun x c => (2 * x + c) % WB) (fun x c => (2 * x + c) / WB) 0 xs).2 ≤ 1 :=
    carL_le (fun a ha c hc => by have := hw a (by simp [ha]); show (2 * a + c) / WB ≤ 1; unfold WB at *; omega) (by omega)
  exact (shl_carry hx hc).1
end Go.Proofs.Mv

/- Plain law of one step of long division; no Go. -/
namespace Go.Proofs.Mv

theorem val_drop {us : List Nat} {j x : Nat} (h : us[j]? = some x) : val (us.drop j) = x + WB * val (us.drop (j + 1)) := by
  obtain ⟨hj, he⟩ := List.getElem?_eq_some_iff.1 h
  rw [List.drop_eq_getElem_cons hj, he, val_cons]
theorem val_split (us : List Nat) {j : Nat} (h : j ≤ us.length) : val us = val (us.take j) + WB ^ j * val (us.drop j) := by
  conv => lhs; rw [← List.take_append_drop j us]
  rw [val_append, List.length_take, Nat.min_eq_left h]
theorem Ws.take {us : List Nat} (h : Ws us) (n : Nat) : Ws (us.take n) := fun x hx => h x (List.mem_of_mem_take hx)
theorem Ws.drop {us : List Nat} (h : Ws us) (n : Nat) : Ws (us.drop n) := fun x hx => h x (List.mem_of_mem_drop hx)
/-- The section that is divided has the whole of what is there. -/
theorem sec_val {us : List Nat} {j n V : Nat} (hw : Ws us) (hR : val (us.drop (j + 1)) < V) (hV : V ≤ WB ^ n) (hj : j + n < us.length) :
    val ((us.drop j).take (n + 1)) = val (us.drop j) ∧ val (us.drop (j + n + 1)) = 0 ∧ val (us.drop j) < WB * V := by
  obtain ⟨x, hx⟩ : ∃ x, us[j]? = some x := ⟨_, List.getElem?_eq_getElem (by omega)⟩
  have hxB := hw x (List.mem_of_getElem? hx)
  have h1 := val_drop hx
  have h2 : val (us.drop j) < WB * V := by
    have : WB * (val (us.drop (j + 1)) + 1) ≤ WB * V := Nat.mul_le_mul_left _ hR
    rw [Nat.mul_add] at this; omega
  have h3 := val_split (us.drop j) (j := n + 1) (by rw [List.length_drop]; omega)
  rw [List.drop_drop, show j + (n + 1) = j + n + 1 by omega] at h3
  have h4 : WB * V ≤ WB ^ (n + 1) := by rw [Nat.pow_succ, Nat.mul_comm]; exact Nat.mul_le_mul_right _ hV
  have h5 : val (us.drop (j + n + 1)) = 0 := by
    rcases Nat.eq_zero_or_pos (val (us.drop (j + n + 1))) with h | h
    · exact h
    · have : WB ^ (n + 1) * 1 ≤ WB ^ (n + 1) * val (us.drop (j + n + 1)) := Nat.mul_le_mul_left _ h
      omega
  rw [h5, Nat.mul_zero, Nat.add_zero] at h3
  exact ⟨h3.symm, h5, h2⟩
theorem mulRow_val (q : Nat) (vs : List Nat) : val ((mulAddL q 0 vs).1 ++ [(mulAddL q 0 vs).2]) = q * val vs := by
  have := mulAddL_val q vs 0
  rw [val_append, val_cons, val_nil, mulAddL_len]; omega
theorem take_drop_last {D : List Nat} {n : Nat} (h : D.length = n + 1) : val D = val (D.take n) + WB ^ n * D.getD n 0 := by
  have h1 := val_split D (j := n) (by omega)
  obtain ⟨x, hx⟩ : ∃ x, D[n]? = some x := ⟨_, List.getElem?_eq_getElem (by omega)⟩
  rw [h1, val_drop hx, List.drop_eq_nil_of_le (by omega), val_nil, Nat.mul_zero, Nat.add_zero, List.getD_eq_getElem?_getD, hx]; rfl
/-- One digit of the quotient, from a guess that is right or one too great. -/
theorem div_step {us vs : List Nat} {j n q : Nat} (hu : Ws us) (hv : Ws vs) (hn : vs.length = n) (hj : j + n < us.length) (hR : val (us.drop (j + 1)) < val vs)
    (h1 : val (us.drop j) / val vs ≤ q) (h2 : q ≤ val (us.drop j) / val vs + 1) (hq : q < WB) {D : List Nat × Nat} (hD : D = subL ((us.drop j).take (n + 1)) ((mulAddL q 0 vs).1 ++ [(mulAddL q 0 vs).2])) :
    (D.2 = 0 → val D.1 = val (us.drop j) % val vs ∧ q = val (us.drop j) / val vs) ∧
    (D.2 ≠ 0 → val (addL (D.1.take n) vs).1 = val (us.drop j) % val vs ∧ (D.1.getD n 0 + (addL (D.1.take n) vs).2) % WB = 0 ∧ q - 1 = val (us.drop j) / val vs ∧ 1 ≤ q) := by
  have hV0 : 0 < val vs := by omega
  have hVn : val vs ≤ WB ^ n := by rw [← hn]; exact Nat.le_of_lt (val_lt hv)
  obtain ⟨s1, _, s3⟩ := sec_val hu hR hVn hj
  have hlen1 : ((us.drop j).take (n + 1)).length = n + 1 := by rw [List.length_take, List.length_drop]; omega
  have hlen2 : ((mulAddL q 0 vs).1 ++ [(mulAddL q 0 vs).2]).length = n + 1 := by rw [List.length_append, mulAddL_len, hn]; rfl
  have hws2 : Ws ((mulAddL q 0 vs).1 ++ [(mulAddL q 0 vs).2]) := by
    have := mulAddL_ws hq hv 0 WB_pos
    exact this.1.append (Ws.mk this.2 Ws.nil)
  have hsv := subL_val (xs := (us.drop j).take (n + 1)) (ys := (mulAddL q 0 vs).1 ++ [(mulAddL q 0 vs).2]) (by omega) ((hu.drop j).take _) hws2
  have hsl := subL_len (xs := (us.drop j).take (n + 1)) (ys := (mulAddL q 0 vs).1 ++ [(mulAddL q 0 vs).2]) (by omega)
  have hsw := subL_ws ((us.drop j).take (n + 1)) ((mulAddL q 0 vs).1 ++ [(mulAddL q 0 vs).2])
  have hsb := subL_borrow ((us.drop j).take (n + 1)) ((mulAddL q 0 vs).1 ++ [(mulAddL q 0 vs).2])
  rw [← hD] at hsv hsl hsw hsb
  rw [mulRow_val, s1, hlen1] at hsv
  rw [hlen1] at hsl
  obtain ⟨f1, f2⟩ := guess_fix hV0 h1 h2
  constructor
  · intro h0
    rw [h0, Nat.mul_zero, Nat.add_zero] at hsv
    obtain ⟨g1, g2⟩ := f1 (by omega)
    exact ⟨by rw [g2]; omega, g1.symm⟩
  · intro h0
    have hb1 : D.2 = 1 := by omega
    rw [hb1, Nat.mul_one] at hsv
    have hDl := val_lt hsw
    rw [hsl] at hDl
    have hlt : val (us.drop j) < q * val vs := by omega
    obtain ⟨g1, g2, g3⟩ := f2 hlt
    have hlo := take_drop_last hsl
    have htk : (D.1.take n).length = n := by rw [List.length_take]; omega
    have hav := addL_val (xs := D.1.take n) (ys := vs) (by rw [htk, hn])
    rw [htk] at hav
    have hac := addL_carry (hsw.take n) hv
    have hal := val_lt (addL_ws (D.1.take n) vs)
    rw [addL_len (by rw [htk, hn]), htk] at hal
    have htop : D.1.getD n 0 < WB := by
      obtain ⟨x, hx⟩ : ∃ x, D.1[n]? = some x := ⟨_, List.getElem?_eq_getElem (by omega)⟩
      rw [List.getD_eq_getElem?_getD, hx]; exact hsw x (List.mem_of_getElem? hx)
    have hqv : q * val vs ≤ val (us.drop j) + val vs := by
      have e1 : (q - 1) * val vs ≤ val (us.drop j) := by rw [← g1]; exact Nat.div_mul_le_self _ _
      have e2 : q * val vs = (q - 1) * val vs + val vs := by
        conv => lhs; rw [show q = q - 1 + 1 by omega, Nat.add_mul, Nat.one_mul]
      omega
    have hab := add_back (B := WB) (n := n) (U := val (us.drop j)) (V := val vs) (q := q) (t := D.1.getD n 0) (lo := val (D.1.take n)) (lo' := val (addL (D.1.take n) vs).1) (k := (addL (D.1.take n) vs).2) WB_pos hlt hqv hVn
      (by rw [show WB ^ n * WB = WB ^ (n + 1) by rw [Nat.pow_succ]]; omega) htop (by have := Nat.mul_comm (WB ^ n) (addL (D.1.take n) vs).2; omega) hal hac
    exact ⟨by rw [g3]; exact hab.1, hab.2, g1.symm, g2⟩
/-- The quotient's digits from j on are there, and what is left above j is below the divisor. -/
structure DivInv (us qs : List Nat) (U V j : Nat) : Prop where
  sum : val us + V * (WB ^ j * val (qs.drop j)) = U
  low : val (us.drop j) < V
theorem DivInv.next {us qs : List Nat} {U V j q : Nat} (h : DivInv us qs U V (j + 1)) {zs : List Nat} {k : Nat} (hj : j < us.length) (hq : j < qs.length) (hz : val zs = val (us.drop j) % V) (hq1 : q = val (us.drop j) / V)
    (_hk : zs.length = k) (h0 : val (us.drop (j + k)) = 0) : DivInv (us.take j ++ zs ++ us.drop (j + k)) (qs.set j q) U V j := by
  have hV : 0 < V := by have := h.low; omega
  have hl : (us.take j).length = j := by rw [List.length_take]; omega
  have hd : val ((us.take j ++ zs ++ us.drop (j + k)).drop j) = val (us.drop j) % V := by
    rw [List.append_assoc, List.drop_append_of_le_length (by omega), List.drop_eq_nil_of_le (by omega : (us.take j).length ≤ j), List.nil_append, val_append, h0, Nat.mul_zero, Nat.add_zero, hz]
  refine ⟨?_, by rw [hd]; exact Nat.mod_lt _ hV⟩
  have hqd : (qs.set j q).drop j = q :: qs.drop (j + 1) := by
    rw [List.drop_eq_getElem_cons (by rw [List.length_set]; exact hq), List.getElem_set_self, List.drop_set_of_lt (by omega)]
  rw [hqd, val_cons, List.append_assoc, val_append, hl]
  have e0 : val (zs ++ us.drop (j + k)) = val (us.drop j) % V := by rw [val_append, h0, Nat.mul_zero, Nat.add_zero, hz]
  rw [e0]
  have h1 := h.sum
  have h2 := val_split us (j := j) (by omega)
  have h3 := Nat.div_add_mod (val (us.drop j)) V
  rw [← hq1] at h3
  rw [h2, ← h3] at h1
  rw [Nat.mul_add, Nat.pow_succ] at h1
  rw [Nat.mul_add, Nat.mul_add]
  have e1 : V * (WB ^ j * WB * val (qs.drop (j + 1))) = V * (WB ^ j * (WB * val (qs.drop (j + 1)))) := by rw [Nat.mul_assoc]
  have e2 : WB ^ j * (V * q) = V * (WB ^ j * q) := by rw [← Nat.mul_assoc, Nat.mul_comm (WB ^ j) V, Nat.mul_assoc]
  rw [e1, e2] at h1
  omega
theorem DivInv.done {us qs : List Nat} {U V : Nat} (h : DivInv us qs U V 0) : val qs = U / V ∧ val us = U % V := by
  have h1 := h.sum
  have h2 := h.low
  rw [List.drop_zero] at h1 h2
  rw [Nat.pow_zero, Nat.one_mul] at h1
  rw [← h1]
  have hV : 0 < V := by omega
  exact ⟨by rw [Nat.add_mul_div_left _ _ hV, Nat.div_eq_of_lt h2, Nat.zero_add], by rw [Nat.add_mul_mod_self_left, Nat.mod_eq_of_lt h2]⟩
/-! ### The guess -/
theorem two_tops {l : List Nat} {n a b : Nat} (h : l.length = n + 2) (ha : l[n]? = some a) (hb : l[n + 1]? = some b) : val l = val (l.take n) + WB ^ n * (a + WB * b) := by
  rw [val_split l (j := n) (by omega), val_drop ha, val_drop hb, List.drop_eq_nil_of_le (by omega), val_nil, Nat.mul_zero, Nat.add_zero]
theorem three_tops {l : List Nat} {n a b c : Nat} (h : l.length = n + 3) (ha : l[n]? = some a) (hb : l[n + 1]? = some b) (hc : l[n + 2]? = some c) : val l = val (l.take n) + WB ^ n * (a + WB * (b + WB * c)) := by
  rw [val_split l (j := n) (by omega), val_drop ha, val_drop hb, val_drop hc, List.drop_eq_nil_of_le (by omega), val_nil, Nat.mul_zero, Nat.add_zero]
/-- A guess that fits the leading digits. -/
def Fits3 (v1 v2 u0 u1 u2 q : Nat) : Prop := q * (v2 + WB * v1) ≤ u2 + WB * (u1 + WB * u0) ∧ u2 + WB * (u1 + WB * u0) < (q + 1) * (v2 + WB * v1)
theorem guess_ok {sec vs : List Nat} {n v1 v2 u0 u1 u2 q : Nat} (hv : Ws vs) (hs : Ws sec) (hvl : vs.length = n + 2) (hsl : sec.length = n + 3) (e1 : vs[n + 1]? = some v1) (e2 : vs[n]? = some v2)
    (d0 : sec[n + 2]? = some u0) (d1 : sec[n + 1]? = some u1) (d2 : sec[n]? = some u2) (hv1 : 0 < v1) (hq : q < WB) (h : Fits3 v1 v2 u0 u1 u2 q) :
    val sec / val vs ≤ q ∧ q ≤ val sec / val vs + 1 := by
  have hV := two_tops hvl e2 e1
  have hS := three_tops hsl d2 d1 d0
  have hvlow := val_lt (hv.take n)
  have hslow := val_lt (hs.take n)
  rw [List.length_take, Nat.min_eq_left (by omega)] at hvlow hslow
  have hW : 0 < WB ^ n := Nat.pow_pos WB_pos
  have hVp : 0 < val (vs.take n) + WB ^ n * (v2 + WB * v1) := by
    have : 0 < v2 + WB * v1 := by have := Nat.mul_le_mul_left WB hv1; have := WB_pos; omega
    have := Nat.mul_le_mul_left (WB ^ n) this
    omega
  rw [hV, hS]
  refine ⟨guess_lo hslow h.2 hVp, guess_hi hvlow h.1 ?_ hVp⟩
  have := Nat.mul_le_mul_left WB hv1
  omega
theorem guess_top {sec vs : List Nat} {n v1 v2 u1 u2 : Nat} (hv : Ws vs) (hvl : vs.length = n + 2) (hsl : sec.length = n + 3) (e1 : vs[n + 1]? = some v1) (e2 : vs[n]? = some v2)
    (d0 : sec[n + 2]? = some v1) (d1 : sec[n + 1]? = some u1) (d2 : sec[n]? = some u2) (hv1 : WB ≤ 2 * v1) (hlt : val sec < WB * val vs) :
    val sec / val vs ≤ WB - 1 ∧ WB - 1 ≤ val sec / val vs + 1 := by
  have hV := two_tops hvl e2 e1
  have hS := three_tops hsl d2 d1 d0
  have hvlow := val_lt (hv.take n)
  rw [List.length_take, Nat.min_eq_left (by omega)] at hvlow
  have hv2 := hv v2 (List.mem_of_getElem? e2)
  have hW : 0 < WB ^ n := Nat.pow_pos WB_pos
  have hVp : 0 < val (vs.take n) + WB ^ n * (v2 + WB * v1) := by
    have h1 : 0 < v1 := by have := WB_pos; omega
    have : 0 < v2 + WB * v1 := by have := Nat.mul_le_mul_left WB h1; have := WB_pos; omega
    have := Nat.mul_le_mul_left (WB ^ n) this
    omega
  rw [hV, hS] at hlt ⊢
  exact guess_max hv1 hv2 hvlow (by unfold WB; omega) hlt hVp
/-- The first guess, by one digit. -/
theorem fits_first {v1 v2 u0 u1 u2 q r : Nat} (hu2 : u2 < WB) (h : q * v1 + r = u0 * WB + u1) (hr : r < v1) (hle : q * (v2 + WB * v1) ≤ u2 + WB * (u1 + WB * u0)) : Fits3 v1 v2 u0 u1 u2 q := by
  refine ⟨hle, ?_⟩
  have e1 : (q + 1) * (v2 + WB * v1) = (q + 1) * v2 + WB * ((q + 1) * v1) := by
    rw [Nat.mul_add, ← Nat.mul_assoc, Nat.mul_comm (q + 1) WB, Nat.mul_assoc]
  have e2 : (q + 1) * v1 = q * v1 + v1 := by rw [Nat.add_mul, Nat.one_mul]
  have e3 : u1 + WB * u0 + 1 ≤ (q + 1) * v1 := by rw [Nat.mul_comm WB u0]; omega
  have e4 := Nat.mul_le_mul_left WB e3
  rw [Nat.mul_add WB (u1 + WB * u0) 1] at e4
  rw [e1]; omega
end Go.Proofs.Mv

/- Plain laws of products and squares by rows of words; the divisors of the printing of great numbers; no Go. -/
namespace Go.Proofs.Mv

/-- A part written anew. -/
def upd (us : List Nat) (j : Nat) (zs : List Nat) : List Nat := us.take j ++ zs ++ us.drop (j + zs.length)
theorem upd_len {us zs : List Nat} {j : Nat} (h : j + zs.length ≤ us.length) : (upd us j zs).length = us.length := by
  unfold upd; simp only [List.length_append, List.length_take, List.length_drop]; omega
theorem Ws.upd {us zs : List Nat} (hu : Ws us) (hz : Ws zs) (j : Nat) : Ws (upd us j zs) := ((hu.take j).append hz).append (hu.drop _)
theorem val_upd {us zs : List Nat} {j : Nat} (h : j + zs.length ≤ us.length) : val (upd us j zs) + WB ^ j * val ((us.drop j).take zs.length) = val us + WB ^ j * val zs := by
  have h1 := val_split us (j := j) (by omega)
  have h2 := val_split (us.drop j) (j := zs.length) (by rw [List.length_drop]; omega)
  rw [List.drop_drop] at h2
  unfold upd
  rw [List.append_assoc, val_append, val_append, List.length_take, Nat.min_eq_left (by omega)]
  rw [h2, Nat.mul_add] at h1
  rw [Nat.mul_add]; omega
theorem upd_one {us : List Nat} {j : Nat} {x : Nat} (h : j < us.length) : upd us j [x] = us.set j x := by
  unfold upd
  rw [List.set_eq_take_append_cons_drop, if_pos h]; simp
theorem val_set {us : List Nat} {j x y : Nat} (h : us[j]? = some y) : val (us.set j x) + WB ^ j * y = val us + WB ^ j * x := by
  obtain ⟨hj, he⟩ := List.getElem?_eq_some_iff.1 h
  have := val_upd (us := us) (zs := [x]) (j := j) (by simp; omega)
  rw [upd_one hj, List.length_singleton, List.take_one, List.head?_drop, h] at this
  simpa [val_cons, val_nil] using this
theorem upd_get_lo {us zs : List Nat} {j i : Nat} (h : i < j) (hj : j ≤ us.length) : (upd us j zs)[i]? = us[i]? := by
  unfold upd
  rw [List.append_assoc, List.getElem?_append_left (by rw [List.length_take]; omega), List.getElem?_take_of_lt h]
theorem upd_get_hi {us zs : List Nat} {j i : Nat} (h : j + zs.length ≤ i) (hj : j + zs.length ≤ us.length) : (upd us j zs)[i]? = us[i]? := by
  unfold upd
  rw [List.getElem?_append_right (by simp only [List.length_append, List.length_take]; omega), List.getElem?_drop]
  congr 1
  simp only [List.length_append, List.length_take]; omega
/-- One row of a product more. -/
theorem mul_step {zs xs : List Nat} {i d : Nat} (hl : i + xs.length < zs.length) (h0 : zs[i + xs.length]? = some 0) :
    val ((upd zs i (addMulL d ((zs.drop i).take xs.length) xs).1).set (i + xs.length) (addMulL d ((zs.drop i).take xs.length) xs).2) = val zs + WB ^ i * (d * val xs) := by
  have hsl : ((zs.drop i).take xs.length).length = xs.length := by rw [List.length_take, List.length_drop]; omega
  have hal := addMulL_len d hsl
  rw [hsl] at hal
  have hav := addMulL_val d hsl
  rw [hsl] at hav
  have h1 := val_upd (us := zs) (zs := (addMulL d ((zs.drop i).take xs.length) xs).1) (j := i) (by omega)
  rw [hal] at h1
  have h2 : (upd zs i (addMulL d ((zs.drop i).take xs.length) xs).1)[i + xs.length]? = some 0 := by rw [upd_get_hi (by omega) (by omega)]; exact h0
  have h3 := val_set (x := (addMulL d ((zs.drop i).take xs.length) xs).2) h2
  rw [Nat.mul_zero, Nat.add_zero, Nat.pow_add, Nat.mul_assoc] at h3
  have h4 := congrArg (WB ^ i * ·) hav
  simp only [Nat.mul_add] at h4
  omega
/-- What stands behind a product's rows so far. -/
theorem zero_above {zs ws : List Nat} {i n c : Nat} (hw : ws.length = n) (hl : i + n < zs.length) (h0 : ∀ k, i + n ≤ k → k < zs.length → zs[k]? = some 0) :
    ∀ k, i + 1 + n ≤ k → k < ((upd zs i ws).set (i + n) c).length → ((upd zs i ws).set (i + n) c)[k]? = some 0 := by
  intro k h1 h2
  rw [List.length_set, upd_len (by omega)] at h2
  rw [List.getElem?_set_ne (by omega), upd_get_hi (by omega) (by omega)]
  exact h0 k (by omega) h2
/-! ### Squares -/
/-- The squares of the words, side by side. -/
def sqs : List Nat → List Nat
  | [] => []
  | x :: r => x * x % WB :: x * x / WB :: sqs r
theorem sqs_len : ∀ (l : List Nat), (sqs l).length = 2 * l.length
  | [] => rfl
  | x :: r => by rw [sqs]; simp [sqs_len r]; omega
theorem sqs_ws : ∀ {l : List Nat}, Ws l → Ws (sqs l)
  | [], _ => Ws.nil
  | x :: r, h => by
    rw [sqs]
    have hx := h.cons.1
    refine Ws.mk (Nat.mod_lt _ WB_pos) (Ws.mk ?_ (sqs_ws h.cons.2))
    rw [Nat.div_lt_iff_lt_mul WB_pos]
    exact Nat.lt_of_le_of_lt (Nat.mul_le_mul_left _ (Nat.le_of_lt hx)) (Nat.mul_lt_mul_of_pos_right hx WB_pos)
theorem sqs_append : ∀ (a b : List Nat), sqs (a ++ b) = sqs a ++ sqs b
  | [], _ => rfl
  | x :: r, b => by rw [List.cons_append, sqs, sqs, sqs_append r b]; rfl
/-- The products of unlike words, each once. -/
def crs : List Nat → Nat
  | [] => 0
  | x :: r => WB * (x * val r) + WB * WB * crs r
theorem val_sqs : ∀ (l : List Nat), val (sqs l) + 2 * crs l = val l * val l
  | [] => rfl
  | x :: r => by
    have ih := val_sqs r
    have hd := Nat.mod_add_div (x * x) WB
    rw [sqs, val_cons, val_cons, crs, val_cons]
    generalize val (sqs r) = S at *
    generalize crs r = C at *
    generalize val r = v at *
    have e1 : (x + WB * v) * (x + WB * v) = x * x + 2 * (WB * (x * v)) + WB * WB * (v * v) := by
      rw [Nat.add_mul, Nat.mul_add, Nat.mul_add]
      have : WB * v * x = WB * (x * v) := by rw [Nat.mul_assoc, Nat.mul_comm v x]
      have : x * (WB * v) = WB * (x * v) := by rw [Nat.mul_left_comm]
      have : WB * v * (WB * v) = WB * WB * (v * v) := by rw [Nat.mul_mul_mul_comm]
      omega
    rw [e1, ← ih]
    have e2 : WB * WB * (S + 2 * C) = WB * (WB * S) + 2 * (WB * WB * C) := by rw [Nat.mul_add, Nat.mul_assoc WB WB S, Nat.mul_left_comm (WB * WB) 2 C]
    rw [e2]
    have e3 : WB * (x * x / WB + WB * S) = WB * (x * x / WB) + WB * (WB * S) := Nat.mul_add _ _ _
    rw [e3, Nat.mul_add 2]; omega
theorem crs_snoc (y : Nat) : ∀ (l : List Nat), crs (l ++ [y]) = crs l + WB ^ l.length * (y * val l)
  | [] => by simp [crs, val_nil]
  | x :: r => by
    have ih := crs_snoc y r
    have h1 : crs (x :: r ++ [y]) = WB * (x * val (r ++ [y])) + WB * WB * crs (r ++ [y]) := rfl
    have h2 : crs (x :: r) = WB * (x * val r) + WB * WB * crs r := rfl
    have h3 : val (r ++ [y]) = val r + WB ^ r.length * y := by rw [val_append, val_cons, val_nil, Nat.mul_zero, Nat.add_zero]
    have h4 : WB ^ (x :: r).length = WB ^ r.length * WB := by rw [List.length_cons, Nat.pow_succ]
    rw [h1, h2, ih, h3, h4, val_cons]
    generalize crs r = C
    generalize val r = v
    generalize WB ^ r.length = Q
    generalize WB = B
    have e1 : B * (x * (v + Q * y)) = B * (x * v) + B * (x * (Q * y)) := by rw [Nat.mul_add, Nat.mul_add]
    have e2 : B * B * (C + Q * (y * v)) = B * B * C + B * B * (Q * (y * v)) := Nat.mul_add _ _ _
    have e3 : Q * B * (y * (x + B * v)) = B * (x * (Q * y)) + B * B * (Q * (y * v)) := by
      rw [Nat.mul_add, Nat.mul_add]
      congr 1
      · rw [Nat.mul_comm Q B, Nat.mul_assoc, Nat.mul_comm y x, Nat.mul_left_comm Q x y]
      · rw [Nat.mul_comm Q B, Nat.mul_left_comm y B v, Nat.mul_assoc B Q, Nat.mul_left_comm Q B, Nat.mul_assoc]
    rw [e1, e2, e3]; omega
/-- Twice a row whose first and last words are 0. -/
theorem twice_row {t : List Nat} {k : Nat} (hl : t.length = k + 2) (h0 : t[0]? = some 0) (h1 : t[k + 1]? = some 0) :
    val ((upd t 1 (shlL 0 ((t.drop 1).take k)).1).set (k + 1) (shlL 0 ((t.drop 1).take k)).2) = 2 * val t := by
  have hsl : ((t.drop 1).take k).length = k := by rw [List.length_take, List.length_drop]; omega
  have hv := shlL_val 0 ((t.drop 1).take k)
  have hn := shlL_len 0 ((t.drop 1).take k)
  rw [hsl] at hv hn
  have e1 := val_upd (us := t) (zs := (shlL 0 ((t.drop 1).take k)).1) (j := 1) (by omega)
  rw [hn] at e1
  have e2 : (upd t 1 (shlL 0 ((t.drop 1).take k)).1)[k + 1]? = some 0 := by rw [upd_get_hi (by omega) (by omega)]; exact h1
  have e3 := val_set (x := (shlL 0 ((t.drop 1).take k)).2) e2
  rw [Nat.mul_zero, Nat.add_zero, Nat.pow_succ, Nat.mul_comm (WB ^ k) WB, Nat.mul_assoc] at e3
  have e4 : val t = WB * val ((t.drop 1).take k) := by
    have g1 := val_drop h0
    rw [List.drop_zero] at g1
    have g2 := val_split (t.drop 1) (j := k) (by rw [List.length_drop]; omega)
    have g3 : List.drop (k + 1 + 1) t = [] := List.drop_eq_nil_of_le (by omega)
    rw [List.drop_drop, show 1 + k = k + 1 by omega, val_drop h1, g3, val_nil] at g2
    rw [g1, Nat.zero_add, g2]; simp
  rw [Nat.pow_one] at e1
  rw [Nat.add_zero] at hv
  have e5 := congrArg (WB * ·) hv
  simp only [Nat.mul_add, Nat.mul_left_comm WB 2] at e5
  omega
/-! ### Divisors -/
def nd : Nat → Nat
  | 0 => 154
  | 1 => 308
  | _ => 616
def nb : Nat → Nat
  | 0 => 512
  | 1 => 1024
  | _ => 2047
theorem nb_bounds : ∀ i, i < 3 → 2 ^ (nb i - 1) ≤ 10 ^ nd i ∧ 10 ^ nd i < 2 ^ nb i
  | 0, _ => by decide +kernel
  | 1, _ => by decide +kernel
  | 2, _ => by decide +kernel
/-- The divisor that is chosen is not above the number. -/
theorem chosen {i L q : Nat} (hi : i < 3) (hL : 513 ≤ L) (hq : 2 ^ (L - 1) ≤ q) (hm : i = 0 ∨ nb (i - 1) ≤ L / 2) :
    (nb i < L → 10 ^ nd i ≤ q) ∧ (L ≤ nb i → q ≤ 10 ^ nd i → 1 ≤ i ∧ 10 ^ nd (i - 1) ≤ q) ∧ (L ≤ nb i → 10 ^ nd i < q → 10 ^ nd i ≤ q) := by
  have key : ∀ k, k < 3 → nb k < L → 10 ^ nd k ≤ q := by
    intro k hk h
    have h1 := (nb_bounds k hk).2
    have h2 : 2 ^ nb k ≤ 2 ^ (L - 1) := Nat.pow_le_pow_right (by decide) (by omega)
    exact Nat.le_of_lt (Nat.lt_of_lt_of_le h1 (Nat.le_trans h2 hq))
  refine ⟨key i hi, fun h => ?_, fun _ h => Nat.le_of_lt h⟩
  have hlt : 1 ≤ i ∧ i - 1 < 3 ∧ nb (i - 1) < L := by
    clear key hq
    match i, hi with
    | 0, _ => have : nb 0 = 512 := rfl; omega
    | 1, _ => have : nb (1 - 1) = 512 := rfl; omega
    | 2, _ =>
      have h1 : nb (2 - 1) = 1024 := rfl
      rcases hm with hm | hm
      · cases hm
      · rw [h1] at hm ⊢; omega
  exact fun _ => ⟨hlt.1, key (i - 1) hlt.2.1 hlt.2.2⟩
end Go.Proofs.Mv

/- Plain laws of long division, round by round: the digits, the guess and its refinement; no Go. -/
namespace Go.Proofs.Mv

/-- The digits qh from j on are found; what is left above j is below V. -/
structure DInv (us qh : List Nat) (U V j : Nat) : Prop where
  sum : val us + V * (WB ^ j * val qh) = U
  low : val (us.drop j) < V
theorem DInv.toDiv {us qh : List Nat} {U V j : Nat} (h : DInv us qh U V j) : DivInv us (List.replicate j 0 ++ qh) U V j := by
  have e : (List.replicate j 0 ++ qh).drop j = qh := by rw [List.drop_append_of_le_length (by simp), List.drop_eq_nil_of_le (by simp)]; rfl
  exact ⟨by rw [e]; exact h.sum, h.low⟩
theorem DInv.start {us : List Nat} {V j : Nat} (h : val (us.drop j) < V) : DInv us [] (val us) V j := ⟨by rw [val_nil]; simp, h⟩
theorem DInv.next {us qh zl : List Nat} {U V j q : Nat} (h : DInv us qh U V (j + 1)) (hj : j < us.length) (hz : val zl = val (us.drop j) % V) (hq : q = val (us.drop j) / V)
    (h0 : val (us.drop (j + zl.length)) = 0) : DInv (upd us j zl) (q :: qh) U V j := by
  have hn := h.toDiv.next (q := q) (zs := zl) (k := zl.length) hj (by simp; omega) hz hq rfl h0
  have e : (List.replicate (j + 1) 0 ++ qh).set j q = List.replicate j 0 ++ q :: qh := by
    apply List.ext_getElem?
    intro i
    by_cases h1 : i = j
    · subst h1
      rw [List.getElem?_set_self (by simp; omega), List.getElem?_append_right (by simp)]; simp
    · rw [List.getElem?_set_ne (Ne.symm h1)]
      by_cases h2 : i < j
      · rw [List.getElem?_append_left (by simp; omega), List.getElem?_append_left (by simp; omega), List.getElem?_replicate, List.getElem?_replicate, if_pos (by omega), if_pos h2]
      · rw [List.getElem?_append_right (by simp; omega), List.getElem?_append_right (by simp; omega)]
        simp only [List.length_replicate]
        obtain ⟨t, rfl⟩ : ∃ t, i = j + 1 + t := ⟨i - j - 1, by omega⟩
        rw [show j + 1 + t - (j + 1) = t by omega, show j + 1 + t - j = t + 1 by omega]; rfl
  rw [e] at hn
  refine ⟨?_, hn.low⟩
  have hs := hn.sum
  have e2 : (List.replicate j 0 ++ q :: qh).drop j = q :: qh := by rw [List.drop_append_of_le_length (by simp), List.drop_eq_nil_of_le (by simp)]; rfl
  rw [e2] at hs
  exact hs
theorem DInv.done {us qh : List Nat} {U V : Nat} (h : DInv us qh U V 0) : val qh = U / V ∧ val us = U % V := by
  have := h.toDiv.done
  simpa using this

/-! ### The guess -/
/-- The leading word of what is left is not above the divisor's. -/
theorem top_le {us vs : List Nat} {j n u0 v1 : Nat} (hv : Ws vs) (hvl : vs.length = n + 1) (e1 : vs[n]? = some v1) (e0 : us[j + n]? = some u0) (h : val (us.drop j) < val vs) : u0 ≤ v1 := by
  have h1 := val_split vs (j := n) (by omega)
  have h2 := val_lt (hv.take n)
  rw [List.length_take, Nat.min_eq_left (by omega)] at h2
  rw [val_drop e1, List.drop_eq_nil_of_le (by omega), val_nil, Nat.mul_zero, Nat.add_zero] at h1
  obtain ⟨hj, _⟩ := List.getElem?_eq_some_iff.1 e0
  have h3 := val_split (us.drop j) (j := n) (by rw [List.length_drop]; omega)
  rw [List.drop_drop, val_drop e0, Nat.mul_add] at h3
  rcases Nat.lt_or_ge v1 u0 with hc | hc
  · have := Nat.mul_le_mul_left (WB ^ n) (show v1 + 1 ≤ u0 by omega)
    rw [Nat.mul_add, Nat.mul_one] at this
    omega
  · exact hc
/-- The state of the refinement. -/
structure RInv (v1 v2 u0 u1 u2 q rh x1 x2 : Nat) : Prop where
  div : q * v1 + rh = u0 * WB + u1
  prod : x1 * WB + x2 = q * v2
  lt : rh < WB
  ql : q < WB
  xl : x1 < WB ∧ x2 < WB
  hi : u2 + WB * (u1 + WB * u0) < (q + 1) * (v2 + WB * v1)
theorem RInv.start {v1 v2 u0 u1 u2 q rh : Nat} (hu2 : u2 < WB) (hv2 : v2 < WB) (hq : q < WB) (h : q * v1 + rh = u0 * WB + u1) (hr : rh < v1) (hv1 : v1 < WB) : RInv v1 v2 u0 u1 u2 q rh (q * v2 / WB) (q * v2 % WB) := by
  refine ⟨h, ?_, by omega, hq, ⟨?_, Nat.mod_lt _ WB_pos⟩, ?_⟩
  · rw [Nat.mul_comm]; exact Nat.div_add_mod _ _
  · rw [Nat.div_lt_iff_lt_mul WB_pos]
    exact Nat.lt_of_le_of_lt (Nat.mul_le_mul_left _ (Nat.le_of_lt hv2)) (Nat.mul_lt_mul_of_pos_right hq WB_pos)
  · have e1 : (q + 1) * (v2 + WB * v1) = (q + 1) * v2 + WB * ((q + 1) * v1) := by
      rw [Nat.mul_add, ← Nat.mul_assoc, Nat.mul_comm (q + 1) WB, Nat.mul_assoc]
    have e2 : (q + 1) * v1 = q * v1 + v1 := by rw [Nat.add_mul, Nat.one_mul]
    have e3 : u1 + WB * u0 + 1 ≤ (q + 1) * v1 := by rw [Nat.mul_comm WB u0]; omega
    have e4 := Nat.mul_le_mul_left WB e3
    rw [Nat.mul_add WB (u1 + WB * u0) 1] at e4
    rw [e1]; omega
theorem RInv.test {v1 v2 u0 u1 u2 q rh x1 x2 : Nat} (h : RInv v1 v2 u0 u1 u2 q rh x1 x2) (hu2 : u2 < WB) : (rh < x1 ∨ (x1 = rh ∧ u2 < x2)) ↔ u2 + WB * (u1 + WB * u0) < q * (v2 + WB * v1) := by
  rw [← refine_test h.div, ← h.prod]
  have h2 := h.xl.2
  clear h
  unfold WB at *
  omega
theorem RInv.fits {v1 v2 u0 u1 u2 q rh x1 x2 : Nat} (h : RInv v1 v2 u0 u1 u2 q rh x1 x2) (hu2 : u2 < WB) (ht : ¬ (rh < x1 ∨ (x1 = rh ∧ u2 < x2))) : Fits3 v1 v2 u0 u1 u2 q := by
  rw [h.test hu2] at ht
  exact ⟨by omega, h.hi⟩
/-- One step of the refinement. -/
theorem RInv.step {v1 v2 u0 u1 u2 q rh x1 x2 : Nat} (h : RInv v1 v2 u0 u1 u2 q rh x1 x2) (hu2 : u2 < WB) (hv2 : v2 < WB) (ht : rh < x1 ∨ (x1 = rh ∧ u2 < x2)) :
    1 ≤ q ∧ (WB ≤ rh + v1 → Fits3 v1 v2 u0 u1 u2 (q - 1)) ∧
    (rh + v1 < WB → (v2 ≤ x2 → RInv v1 v2 u0 u1 u2 (q - 1) (rh + v1) x1 (x2 - v2)) ∧ (x2 < v2 → 1 ≤ x1 ∧ RInv v1 v2 u0 u1 u2 (q - 1) (rh + v1) (x1 - 1) (x2 + WB - v2))) := by
  have hlt := (h.test hu2).1 ht
  have hW : WB = 18446744073709551616 := rfl
  have hq : 1 ≤ q := by
    rcases Nat.eq_zero_or_pos q with e | e
    · rw [e, Nat.zero_mul] at hlt; omega
    · exact e
  have hx := h.prod
  have hxl := h.xl
  have hql := h.ql
  obtain ⟨p, rfl⟩ : ∃ p, q = p + 1 := ⟨q - 1, by omega⟩
  rw [Nat.add_sub_cancel]
  have hd : p * v1 + (rh + v1) = u0 * WB + u1 := by have := h.div; rw [Nat.add_mul, Nat.one_mul] at this; omega
  have hp : (p + 1) * v2 = p * v2 + v2 := by rw [Nat.add_mul, Nat.one_mul]
  rw [hp] at hx
  refine ⟨by omega, fun hov => ⟨?_, hlt⟩, fun hno => ⟨fun h2 => ⟨hd, by omega, hno, by omega, ⟨hxl.1, by omega⟩, hlt⟩, fun h2 => ?_⟩⟩
  · have hn : ¬ ((rh + v1) * WB + u2 < p * v2) := by
      have a1 : p * v2 ≤ p * WB := Nat.mul_le_mul_left _ (Nat.le_of_lt hv2)
      have a2 : p * WB ≤ WB * WB := Nat.mul_le_mul_right _ (by omega)
      have a3 : WB * WB ≤ (rh + v1) * WB := Nat.mul_le_mul_right _ hov
      omega
    rw [refine_test hd] at hn
    omega
  · have h1 : 1 ≤ x1 := by
      rcases Nat.eq_zero_or_pos x1 with e | e
      · rw [e, Nat.zero_mul] at hx; omega
      · exact e
    refine ⟨h1, hd, ?_, hno, by omega, ⟨by omega, by omega⟩, hlt⟩
    obtain ⟨y, rfl⟩ : ∃ y, x1 = y + 1 := ⟨x1 - 1, by omega⟩
    rw [Nat.add_mul, Nat.one_mul] at hx
    rw [Nat.add_sub_cancel]
    omega

/-! ### One round -/
/-- A row that is written in two steps. -/
theorem upd_two {us D A : List Nat} {j n : Nat} (hj : j + n < us.length) (hD : D.length = n + 1) (hA : A.length = n) : (upd (upd us j D) j A).set (j + n) 0 = upd us j (A ++ [0]) := by
  have l1 : (upd us j D).length = us.length := upd_len (by omega)
  have l2 : (upd (upd us j D) j A).length = us.length := by rw [upd_len (by omega), l1]
  apply List.ext_getElem?
  intro i
  by_cases h1 : i < j
  · rw [List.getElem?_set_ne (by omega), upd_get_lo h1 (by omega), upd_get_lo h1 (by omega), upd_get_lo h1 (by omega)]
  · by_cases h2 : i < j + n
    · obtain ⟨t, rfl⟩ : ∃ t, i = j + t := ⟨i - j, by omega⟩
      have g : ∀ (ws zl : List Nat), j ≤ ws.length → t < zl.length → (upd ws j zl)[j + t]? = zl[t]? := fun ws zl a b => by
        unfold upd
        rw [List.append_assoc, List.getElem?_append_right (by rw [List.length_take]; omega), List.length_take, Nat.min_eq_left a, Nat.add_sub_cancel_left, List.getElem?_append_left b]
      rw [List.getElem?_set_ne (by omega), g _ _ (by omega) (by omega), g _ _ (by omega) (by simp; omega), List.getElem?_append_left (by omega)]
    · by_cases h3 : i = j + n
      · subst h3
        have g : ∀ (ws zl : List Nat), j ≤ ws.length → n < zl.length → (upd ws j zl)[j + n]? = zl[n]? := fun ws zl a b => by
          unfold upd
          rw [List.append_assoc, List.getElem?_append_right (by rw [List.length_take]; omega), List.length_take, Nat.min_eq_left a, Nat.add_sub_cancel_left, List.getElem?_append_left b]
        rw [List.getElem?_set_self (by omega), g _ _ (by omega) (by simp; omega), List.getElem?_append_right (by omega), hA]; simp
      · rw [List.getElem?_set_ne (by omega), upd_get_hi (by omega) (by omega), upd_get_hi (by omega) (by omega), upd_get_hi (by simp; omega) (by simp; omega)]
/-- A round: the guess q is right or one too great. -/
theorem div_round {us vs qh : List Nat} {U j n q : Nat} (h : DInv us qh U (val vs) (j + 1)) (hu : Ws us) (hv : Ws vs) (hn : vs.length = n) (hj : j + n < us.length)
    (h1 : val (us.drop j) / val vs ≤ q) (h2 : q ≤ val (us.drop j) / val vs + 1) (hq : q < WB) {D : List Nat × Nat} (hD : D = subL ((us.drop j).take (n + 1)) ((mulAddL q 0 vs).1 ++ [(mulAddL q 0 vs).2])) :
    D.1.length = n + 1 ∧ Ws D.1 ∧ D.2 ≤ 1 ∧ (D.2 = 0 → DInv (upd us j D.1) (q :: qh) U (val vs) j) ∧
    (D.2 ≠ 0 → ∀ A, A = addL (D.1.take n) vs → A.1.length = n ∧ Ws A.1 ∧ A.2 ≤ 1 ∧ 1 ≤ q ∧ (D.1.getD n 0 + A.2) % WB = 0 ∧ DInv ((upd (upd us j D.1) j A.1).set (j + n) 0) ((q - 1) :: qh) U (val vs) j) := by
  have hlen1 : ((us.drop j).take (n + 1)).length = n + 1 := by rw [List.length_take, List.length_drop]; omega
  have hlen2 : ((mulAddL q 0 vs).1 ++ [(mulAddL q 0 vs).2]).length = n + 1 := by rw [List.length_append, mulAddL_len, hn]; rfl
  have hDl : D.1.length = n + 1 := by rw [hD, subL_len (by omega), hlen1]
  have hDw : Ws D.1 := by rw [hD]; exact subL_ws _ _
  have hDb : D.2 ≤ 1 := by rw [hD]; exact subL_borrow _ _
  have hVn : val vs ≤ WB ^ n := by rw [← hn]; exact Nat.le_of_lt (val_lt hv)
  obtain ⟨s1, s2, s3⟩ := sec_val hu h.low hVn hj
  obtain ⟨f1, f2⟩ := div_step hu hv hn hj h.low h1 h2 hq hD
  refine ⟨hDl, hDw, hDb, fun h0 => ?_, fun h0 A hA => ?_⟩
  · obtain ⟨g1, g2⟩ := f1 h0
    exact h.next (by omega) g1 g2 (by rw [hDl]; exact s2)
  · obtain ⟨g1, g2, g3, g4⟩ := f2 h0
    have htk : (D.1.take n).length = n := by rw [List.length_take]; omega
    have hAl : A.1.length = n := by rw [hA, addL_len (by rw [htk, hn]), htk]
    rw [← hA] at g1 g2
    refine ⟨hAl, by rw [hA]; exact addL_ws _ _, by rw [hA]; exact addL_carry (hDw.take n) hv, g4, g2, ?_⟩
    rw [upd_two hj hDl hAl]
    refine h.next (by omega) ?_ g3 ?_
    · rw [val_append, val_cons, val_nil]; simpa using g1
    · rw [List.length_append, hAl]; exact s2
end Go.Proofs.Mv

/- Contract of nlz: how many zeros stand ahead in a word. -/
namespace Go.Proofs.Tz
open Go.RowKit Mv

set_option maxHeartbeats 1000000 in
theorem nlz_any (x : Nat) (hx : x < WB) (w : World) (z : Nat) (hz : (64 : Int) - (Lib.bitLen x : Int) = (z : Int)) :
    Calls Tryz.prog 187 #[.int .u64 (x : Int)] w fun e w' => e = .returned (.int .u64 (z : Int)) ∧ w = w' := by
  have h := (Tryz.bits_LeadingZeros (x : Int) w (by omega) (by have : x < 18446744073709551616 := hx; omega)).mono fun _ _ h => (⟨h.1, h.2.symm⟩ : _ ∧ w = _)
  rw [Int.toNat_natCast, hz] at h
  have hz64 : (z : Int) ≤ 64 := by omega
  have H := Lib.hid h
  clear h hz
  go_enter Tryz.func187, Tryz.ntmps187
  go_wp2_with fail
  (with_reducible refine (H.out).mono ?_)
  rintro e w1 ⟨rfl, rfl⟩
  go_wp2_with fail
  go_ret
  exact ⟨rfl, rfl⟩
end Go.Proofs.Tz

/- Plain: what divWW reckons, step by step; no Go. -/
namespace Go.Proofs.Mv
/-- A number of two words, less another one. -/
theorem sub_two {x1 x0 y1 y0 r0 b r1 : Nat} (hx0 : x0 < WB) (hx1 : x1 < WB) (hy0 : y0 < WB) (hle : y1 * WB + y0 ≤ x1 * WB + x0) (hr0 : r0 = (x0 + WB - y0 - 0) % WB) (hb : b = if x0 < y0 + 0 then 1 else 0) (hr1 : r1 = (x1 + WB - y1 - b) % WB) :
    b ≤ 1 ∧ r0 < WB ∧ r0 + WB * r1 = x1 * WB + x0 - (y1 * WB + y0) := by
  have e0 : x0 + WB - y0 - 0 = x0 + WB - y0 := rfl
  rw [e0] at hr0
  rw [Nat.add_zero] at hb
  by_cases h : x0 < y0
  · rw [if_pos h] at hb
    subst hb
    rw [Nat.mod_eq_of_lt (by omega)] at hr0
    have h1 : y1 + 1 ≤ x1 := by clear hr0 hr1; unfold WB at *; omega
    rw [show x1 + WB - y1 - 1 = x1 - y1 - 1 + WB by omega, Nat.add_mod_right, Nat.mod_eq_of_lt (by omega)] at hr1
    subst hr0 hr1
    refine ⟨by omega, by omega, ?_⟩
    unfold WB at *; omega
  · rw [if_neg h] at hb
    subst hb
    rw [show x0 + WB - y0 = x0 - y0 + WB by omega, Nat.add_mod_right, Nat.mod_eq_of_lt (by omega)] at hr0
    have h1 : y1 ≤ x1 := by clear hr0 hr1; unfold WB at *; omega
    rw [show x1 + WB - y1 - 0 = x1 - y1 + WB by omega, Nat.add_mod_right, Nat.mod_eq_of_lt (by omega)] at hr1
    subst hr0 hr1
    refine ⟨by omega, by omega, ?_⟩
    unfold WB at *; omega
/-- What divWW reckons, step by step. -/
theorem divWW_steps {d x1 x0 m t1 t0 c q dq1 dq0 r0 b r1 : Nat} (hd : WB ≤ 2 * d) (hd' : d < WB) (hx1 : x1 < d) (hx0 : x0 < WB) (hm : m = recip d)
    (ht1 : t1 = m * x1 / WB) (ht0 : t0 = m * x1 % WB) (hc : c = (t0 + x0 + 0) / WB) (hq : q = (t1 + x1 + c) % WB) (hdq1 : dq1 = d * q / WB) (hdq0 : dq0 = d * q % WB)
    (hr0 : r0 = (x0 + WB - dq0 - 0) % WB) (hb : b = if x0 < dq0 + 0 then 1 else 0) (hr1 : r1 = (x1 + WB - dq1 - b) % WB) :
    c ≤ 1 ∧ b ≤ 1 ∧ q < WB ∧ r0 < WB ∧ ∃ Q R, Q = (x1 * WB + x0) / d ∧ R = (x1 * WB + x0) % d ∧ R < d ∧ Q < WB ∧
      ((r1 = 0 ∧ r0 < d ∧ Q = q ∧ R = r0) ∨ (r1 = 0 ∧ d ≤ r0 ∧ Q = q + 1 ∧ R = r0 - d) ∨
       (r1 = 1 ∧ Q = q + 1 ∧ r0 < d ∧ (r0 : Int) - d + WB = R) ∨ (r1 = 1 ∧ Q = q + 2 ∧ r0 < d ∧ (r0 : Int) - d + WB = R + d)) := by
  obtain ⟨p1, p2⟩ := qguess_props hd' hx1 hx0
  have hqg : qguess d x1 x0 = (m * x1 + x0) / WB + x1 := by rw [hm]; rfl
  have hXd : x1 * WB + x0 < d * WB := by
    have : (x1 + 1) * WB ≤ d * WB := Nat.mul_le_mul_right _ hx1
    rw [Nat.add_mul] at this; omega
  have hqB : qguess d x1 x0 < WB := Nat.lt_of_mul_lt_mul_left (a := d) (Nat.lt_of_le_of_lt p1 hXd)
  have hP := Nat.div_add_mod (m * x1) WB
  rw [← ht1, ← ht0] at hP
  have ht0B : t0 < WB := by rw [ht0]; exact Nat.mod_lt _ WB_pos
  have hS := Nat.div_add_mod (t0 + x0 + 0) WB
  rw [← hc] at hS
  have hgB := Nat.mod_lt (t0 + x0 + 0) WB_pos
  obtain ⟨g, hg⟩ : ∃ g, g = (t0 + x0 + 0) % WB := ⟨_, rfl⟩
  rw [← hg] at hS hgB
  have hdv : (m * x1 + x0) / WB = t1 + c := by
    have e : m * x1 + x0 = g + WB * (t1 + c) := by rw [Nat.mul_add]; omega
    rw [e, Nat.add_mul_div_left _ _ WB_pos, Nat.div_eq_of_lt hgB, Nat.zero_add]
  have hqe : q = qguess d x1 x0 := by
    rw [hqg, hdv] at hqB
    rw [hq, hqg, hdv, Nat.mod_eq_of_lt (by omega)]; omega
  have hc1 : c ≤ 1 := by
    rcases Nat.lt_or_ge c 2 with h | h
    · omega
    · have := Nat.mul_le_mul_left WB h
      omega
  rw [← hqe] at p1 p2 hqB
  obtain ⟨f1, f2, f3, f4⟩ := div_fix hd hd' p1 p2
  have hQB : (x1 * WB + x0) / d < WB := by rw [Nat.div_lt_iff_lt_mul (by omega), Nat.mul_comm WB d]; exact hXd
  have hRd : (x1 * WB + x0) % d < d := Nat.mod_lt _ (by omega)
  have hD := Nat.div_add_mod (d * q) WB
  rw [← hdq1, ← hdq0, Nat.mul_comm WB dq1] at hD
  have hdq0B : dq0 < WB := by rw [hdq0]; exact Nat.mod_lt _ WB_pos
  rw [← hD] at p1 p2 f1 f2 f3 f4
  obtain ⟨b1, r0B, hsp⟩ := sub_two hx0 (by omega) hdq0B p1 hr0 hb hr1
  refine ⟨hc1, b1, hqB, r0B, _, _, rfl, rfl, hRd, hQB, ?_⟩
  obtain ⟨Q, hQ⟩ : ∃ Q, Q = (x1 * WB + x0) / d := ⟨_, rfl⟩
  obtain ⟨R, hR⟩ : ∃ Q, Q = (x1 * WB + x0) % d := ⟨_, rfl⟩
  rw [← hQ, ← hR] at f1 f2 f3 f4 ⊢
  obtain ⟨Y, hY⟩ : ∃ Y, Y = x1 * WB + x0 - (dq1 * WB + dq0) := ⟨_, rfl⟩
  rw [← hY] at f1 f2 f3 f4 hsp
  have hYB : Y < WB + d := by omega
  clear hqe hqg hq hc ht1 ht0 hP hm hr0 hr1 hb hdq1 hdq0 hD hS hgB hg hdv p1 p2 hQB hRd hQ hR hY hXd
  rcases Nat.lt_or_ge Y WB with h | h
  · have e : r1 = 0 := by
      rcases Nat.eq_zero_or_pos r1 with g | g
      · exact g
      · have := Nat.mul_le_mul_left WB g
        omega
    subst e
    rcases Nat.lt_or_ge Y d with k | k
    · obtain ⟨a1, a2⟩ := f1 h k
      exact .inl ⟨rfl, by omega, a1, by omega⟩
    · obtain ⟨a1, a2⟩ := f2 h k
      exact .inr (.inl ⟨rfl, by omega, a1, by omega⟩)
  · have e : r1 = 1 := by
      rcases Nat.lt_or_ge r1 2 with g | g
      · rcases Nat.eq_zero_or_pos r1 with g2 | g2
        · rw [g2] at hsp; omega
        · omega
      · have := Nat.mul_le_mul_left WB g
        omega
    subst e
    rcases Nat.lt_or_ge (Y - d) d with k | k
    · obtain ⟨a1, a2⟩ := f3 h k
      exact .inr (.inr (.inl ⟨rfl, a1, by omega, by rw [a2]; omega⟩))
    · obtain ⟨a1, a2⟩ := f4 h k
      exact .inr (.inr (.inr ⟨rfl, a1, by omega, by rw [a2]; omega⟩))
end Go.Proofs.Mv

/- Contract of divWW: two words divided by one, its reciprocal given. -/
namespace Go.Proofs.Tz
open Go.RowKit Mv

theorem blen64 {d : Nat} (hd : WB ≤ 2 * d) (hd' : d < WB) : Lib.bitLen d = 64 :=
  blen_eq (by have := WB_pos; omega) hd' (by unfold WB at hd; omega) (by unfold WB at hd'; omega)
theorem nlz_zero {d : Nat} (hd : WB ≤ 2 * d) (hd' : d < WB) (w : World) : Calls Tryz.prog 187 #[.int .u64 (d : Int)] w fun e w' => e = .returned (.int .u64 0) ∧ w = w' :=
  nlz_any d hd' w 0 (by rw [blen64 hd hd']; rfl)

set_option maxHeartbeats 4000000 in
set_option maxRecDepth 100000 in
theorem divWW_any (x1 x0 d m : Nat) (hd : WB ≤ 2 * d) (hd' : d < WB) (hx1 : x1 < d) (hx0 : x0 < WB) (hm : m = recip d) (w : World) :
    Calls Tryz.prog 204 #[.int .u64 x1, .int .u64 x0, .int .u64 d, .int .u64 m] w fun e w' =>
      e = .returned (.tuple #[.int .u64 (((x1 * WB + x0) / d : Nat) : Int), .int .u64 (((x1 * WB + x0) % d : Nat) : Int)]) ∧ ∃ k, w' = w.drewN k := by
  have hmB : m < WB := by rw [hm]; exact recip_lt hd hd'
  obtain ⟨t1, ht1⟩ : ∃ t, t = m * x1 / WB := ⟨_, rfl⟩
  obtain ⟨t0, ht0⟩ : ∃ t, t = m * x1 % WB := ⟨_, rfl⟩
  obtain ⟨c, hc⟩ : ∃ t, t = (t0 + x0 + 0) / WB := ⟨_, rfl⟩
  obtain ⟨q, hq⟩ : ∃ t, t = (t1 + x1 + c) % WB := ⟨_, rfl⟩
  obtain ⟨dq1, hdq1⟩ : ∃ t, t = d * q / WB := ⟨_, rfl⟩
  obtain ⟨dq0, hdq0⟩ : ∃ t, t = d * q % WB := ⟨_, rfl⟩
  obtain ⟨r0, hr0⟩ : ∃ t, t = (x0 + WB - dq0 - 0) % WB := ⟨_, rfl⟩
  obtain ⟨b, hb⟩ : ∃ t, t = if x0 < dq0 + 0 then 1 else 0 := ⟨_, rfl⟩
  obtain ⟨r1, hr1⟩ : ∃ t, t = (x1 + WB - dq1 - b) % WB := ⟨_, rfl⟩
  obtain ⟨hc1, hb1, hqB, hr0B, Q, R, hQ, hR, hRd, hQB, hcase⟩ := divWW_steps hd hd' hx1 hx0 hm ht1 ht0 hc hq hdq1 hdq0 hr0 hb hr1
  rw [← hQ, ← hR]
  obtain ⟨g1, hg1⟩ : ∃ t, t = (t0 + x0 + 0) % WB := ⟨_, rfl⟩
  obtain ⟨g2, hg2⟩ : ∃ t, t = (t1 + x1 + c) / WB := ⟨_, rfl⟩
  obtain ⟨g3, hg3⟩ : ∃ t, t = if x1 < dq1 + b then 1 else 0 := ⟨_, rfl⟩
  have K0 := Lib.hid (fun w => nlz_zero hd hd' w)
  have K1 : Hid (∀ w : World, Calls Tryz.prog 189 #[.int .u64 m, .int .u64 x1] w fun e w' => e = .returned (.tuple #[.int .u64 (t1 : Int), .int .u64 (t0 : Int)]) ∧ w = w') := Lib.hid fun w => by rw [ht1, ht0]; exact mul_any m x1 hmB (by omega) w
  have K2 : Hid (∀ w : World, Calls Tryz.prog 234 #[.int .u64 t0, .int .u64 x0, .int .u64 0] w fun e w' => e = .returned (.tuple #[.int .u64 (g1 : Int), .int .u64 (c : Int)]) ∧ w = w') := Lib.hid fun w => by rw [hg1, hc]; exact add_any t0 x0 0 (by omega) w
  have K3 : Hid (∀ w : World, Calls Tryz.prog 234 #[.int .u64 t1, .int .u64 x1, .int .u64 c] w fun e w' => e = .returned (.tuple #[.int .u64 (q : Int), .int .u64 (g2 : Int)]) ∧ w = w') := Lib.hid fun w => by rw [hg2, hq]; exact add_any t1 x1 c hc1 w
  have K4 : Hid (∀ w : World, Calls Tryz.prog 189 #[.int .u64 d, .int .u64 q] w fun e w' => e = .returned (.tuple #[.int .u64 (dq1 : Int), .int .u64 (dq0 : Int)]) ∧ w = w') := Lib.hid fun w => by rw [hdq1, hdq0]; exact mul_any d q hd' hqB w
  have K5 : Hid (∀ w : World, Calls Tryz.prog 239 #[.int .u64 x0, .int .u64 dq0, .int .u64 0] w fun e w' => e = .returned (.tuple #[.int .u64 (r0 : Int), .int .u64 (b : Int)]) ∧ w = w') := Lib.hid fun w => by rw [hr0, hb]; exact sub_any x0 dq0 0 (by omega) w
  have K6 : Hid (∀ w : World, Calls Tryz.prog 239 #[.int .u64 x1, .int .u64 dq1, .int .u64 b] w fun e w' => e = .returned (.tuple #[.int .u64 (r1 : Int), .int .u64 (g3 : Int)]) ∧ w = w') := Lib.hid fun w => by rw [hr1, hg3]; exact sub_any x1 dq1 b hb1 w
  clear hd hm hmB ht1 ht0 hc hq hdq1 hdq0 hr0 hb hr1 hg1 hg2 hg3 hc1 hb1 hQ hR hx1 hx0
  unfold WB at hqB hr0B hQB hcase hd'
  have e1 : ∀ n : Nat, n < 18446744073709551616 → IntKind.u64.wrap (n : Int) = n := fun n h => wrap_u64_nat n h
  have E1 := Lib.hid e1
  clear e1
  rcases hcase with ⟨rfl, h1, rfl, rfl⟩ | ⟨rfl, h1, hQ, hR⟩ | ⟨rfl, hQ, h0, h1⟩ | ⟨rfl, hQ, h0, h1⟩
  · skip
    go_enter Tryz.func204, Tryz.ntmps204
    go_wp2_with fail
    (with_reducible refine (K0.out _).mono ?_)
    rintro e w1 ⟨rfl, rfl⟩
    go_wp2_with fail
    (with_reducible refine (K1.out _).mono ?_)
    rintro e w1 ⟨rfl, rfl⟩
    go_wp2_with fail
    (with_reducible refine (K2.out _).mono ?_)
    rintro e w1 ⟨rfl, rfl⟩
    go_wp2_with fail
    (with_reducible refine (K3.out _).mono ?_)
    rintro e w1 ⟨rfl, rfl⟩
    go_wp2_with fail
    (with_reducible refine (K4.out _).mono ?_)
    rintro e w1 ⟨rfl, rfl⟩
    go_wp2_with fail
    (with_reducible refine (K5.out _).mono ?_)
    rintro e w1 ⟨rfl, rfl⟩
    go_wp2_with fail
    (with_reducible refine (K6.out _).mono ?_)
    rintro e w1 ⟨rfl, rfl⟩
    go_wp2_with fail
    go_ret2
    exact ⟨rfl, 0, rfl⟩
  · have w1 : IntKind.u64.wrap ((q : Int) + 1) = (Q : Int) := by have := E1.out (q + 1) (by omega); rw [hQ]; simpa using this
    have w2 : IntKind.u64.wrap ((r0 : Int) - (d : Int)) = (R : Int) := by have := E1.out R (by omega); rw [← this]; congr 1; omega
    clear hQ hR
    go_enter Tryz.func204, Tryz.ntmps204
    go_wp2_with fail
    (with_reducible refine (K0.out _).mono ?_)
    rintro e w1 ⟨rfl, rfl⟩
    go_wp2_with fail
    (with_reducible refine (K1.out _).mono ?_)
    rintro e w1 ⟨rfl, rfl⟩
    go_wp2_with fail
    (with_reducible refine (K2.out _).mono ?_)
    rintro e w1 ⟨rfl, rfl⟩
    go_wp2_with fail
    (with_reducible refine (K3.out _).mono ?_)
    rintro e w1 ⟨rfl, rfl⟩
    go_wp2_with fail
    (with_reducible refine (K4.out _).mono ?_)
    rintro e w1 ⟨rfl, rfl⟩
    go_wp2_with fail
    (with_reducible refine (K5.out _).mono ?_)
    rintro e w1 ⟨rfl, rfl⟩
    go_wp2_with fail
    (with_reducible refine (K6.out _).mono ?_)
    rintro e w1 ⟨rfl, rfl⟩
    go_wp2_with fail
    go_ret2
    exact ⟨rfl, 0, rfl⟩
  · have w1 : IntKind.u64.wrap ((q : Int) + 1) = (Q : Int) := by have := E1.out (q + 1) (by omega); rw [hQ]; simpa using this
    have w2 : IntKind.u64.wrap ((r0 : Int) - (d : Int)) = (R : Int) := by rw [IntKind.wrap_u64]; omega
    clear hQ h1 h0
    go_enter Tryz.func204, Tryz.ntmps204
    go_wp2_with fail
    (with_reducible refine (K0.out _).mono ?_)
    rintro e w1 ⟨rfl, rfl⟩
    go_wp2_with fail
    (with_reducible refine (K1.out _).mono ?_)
    rintro e w1 ⟨rfl, rfl⟩
    go_wp2_with fail
    (with_reducible refine (K2.out _).mono ?_)
    rintro e w1 ⟨rfl, rfl⟩
    go_wp2_with fail
    (with_reducible refine (K3.out _).mono ?_)
    rintro e w1 ⟨rfl, rfl⟩
    go_wp2_with fail
    (with_reducible refine (K4.out _).mono ?_)
    rintro e w1 ⟨rfl, rfl⟩
    go_wp2_with fail
    (with_reducible refine (K5.out _).mono ?_)
    rintro e w1 ⟨rfl, rfl⟩
    go_wp2_with fail
    (with_reducible refine (K6.out _).mono ?_)
    rintro e w1 ⟨rfl, rfl⟩
    go_wp2_with fail
    go_ret2
    exact ⟨rfl, 0, rfl⟩
  · have w1 : IntKind.u64.wrap ((q : Int) + 1) = ((q + 1 : Nat) : Int) := by have := E1.out (q + 1) (by omega); simpa using this
    obtain ⟨q2, hq2⟩ : ∃ q2, q2 = q + 1 := ⟨_, rfl⟩
    rw [← hq2] at w1
    have w3 : IntKind.u64.wrap ((q2 : Int) + 1) = (Q : Int) := by have := E1.out (q2 + 1) (by omega); rw [hQ, hq2]; rw [hq2] at this; rw [show ((q + 2 : Nat) : Int) = ((q + 1 + 1 : Nat) : Int) by omega]; simpa using this
    obtain ⟨rr, hrr⟩ : ∃ rr, rr = R + d := ⟨_, rfl⟩
    have w2 : IntKind.u64.wrap ((r0 : Int) - (d : Int)) = (rr : Int) := by rw [IntKind.wrap_u64]; omega
    have w4 : IntKind.u64.wrap ((rr : Int) - (d : Int)) = (R : Int) := by rw [IntKind.wrap_u64]; omega
    have h2 : d ≤ rr := by omega
    clear hQ h1 h0 hq2 hrr
    go_enter Tryz.func204, Tryz.ntmps204
    go_wp2_with fail
    (with_reducible refine (K0.out _).mono ?_)
    rintro e w1 ⟨rfl, rfl⟩
    go_wp2_with fail
    (with_reducible refine (K1.out _).mono ?_)
    rintro e w1 ⟨rfl, rfl⟩
    go_wp2_with fail
    (with_reducible refine (K2.out _).mono ?_)
    rintro e w1 ⟨rfl, rfl⟩
    go_wp2_with fail
    (with_reducible refine (K3.out _).mono ?_)
    rintro e w1 ⟨rfl, rfl⟩
    go_wp2_with fail
    (with_reducible refine (K4.out _).mono ?_)
    rintro e w1 ⟨rfl, rfl⟩
    go_wp2_with fail
    (with_reducible refine (K5.out _).mono ?_)
    rintro e w1 ⟨rfl, rfl⟩
    go_wp2_with fail
    (with_reducible refine (K6.out _).mono ?_)
    rintro e w1 ⟨rfl, rfl⟩
    go_wp2_with fail
    go_ret2
    exact ⟨rfl, 0, rfl⟩
end Go.Proofs.Tz

/- Contract of divWVW at numbers of more words than one; divW at any number. -/
namespace Go.Proofs.Tz
open Go.RowKit Mv

/-- What reciprocalWord gives at y. -/
def RecOk (y : Nat) : Prop := ∀ w : World, Calls Tryz.prog 203 #[.int .u64 (y : Int)] w fun e w' => e = .returned (.int .u64 ((recip y : Nat) : Int)) ∧ ∃ k, w' = w.drewN k

theorem divL_drop {ws : List Nat} {k x : Nat} (y : Nat) (h : ws[k]? = some x) : divL y (ws.drop k) = (((divL y (ws.drop (k + 1))).2 * WB + x) / y :: (divL y (ws.drop (k + 1))).1, ((divL y (ws.drop (k + 1))).2 * WB + x) % y) := by
  obtain ⟨hk, he⟩ := List.getElem?_eq_some_iff.1 h
  rw [List.drop_eq_getElem_cons hk, he, divL_cons]

set_option maxHeartbeats 4000000 in
set_option maxRecDepth 100000 in
theorem divWVW_any (b cap cap2 y : Nat) (ws : List Nat) (cs : List Value) (w : World) (hA : Arr w b 160 cs) (hs : Sub cs 0 ws) (hl : ws.length ≤ cs.length) (h1 : 1 < ws.length) (hm : ws.length ≤ 1000000000) (hw : Ws ws)
    (hy : WB ≤ 2 * y) (hy' : y < WB) (hR : RecOk y) :
    Calls Tryz.prog 174 #[.slice (some ⟨b, 0, none⟩) ws.length cap, .int .u64 0, .slice (some ⟨b, 0, none⟩) ws.length cap2, .int .u64 y] w fun e w' =>
      e = .returned (.int .u64 ((divL y ws).2 : Nat)) ∧ Arr w' b 160 (put cs 0 (wds (divL y ws).1)) ∧ w.grownBy w' (some b) ∧ w'.heap.size = w.heap.size := by
  obtain ⟨n, hn⟩ : ∃ n, n = ws.length := ⟨_, rfl⟩
  rw [← hn] at hl h1 hm ⊢
  have hn1 : ((n : Int) == 1) = false := by simp only [beq_eq_false_iff_ne, ne_eq]; omega
  have HA := Lib.hid hA
  have HS := Lib.hid hs
  have HW := Lib.hid hw
  have HN := Lib.hid hn
  have HY := Lib.hid (And.intro hy hy')
  have HR := Lib.hid (fun w => hR w)
  obtain ⟨m, hm'⟩ : ∃ m, m = recip y := ⟨_, rfl⟩
  have HM := Lib.hid hm'
  clear hA hs hw hn hy hy' hR
  go_enter Tryz.func174, Tryz.ntmps174
  go_wp2_with fail
  (with_reducible refine (HR.out _).mono ?_)
  rintro e w1 ⟨rfl, q1, rfl⟩
  rw [← hm']
  clear hm'
  go_wp2_with fail
  obtain ⟨w1, hw1⟩ : ∃ w1, w1 = w.drewN q1 := ⟨_, rfl⟩
  go_loopw [8, 12] (fun r i wr => ∃ k : Nat, k ≤ n ∧ i = .int .i64 ((k : Int) - 1) ∧ r = .int .u64 ((divL y (ws.drop k)).2 : Nat) ∧ Hid (Arr wr b 160 (put cs k (wds (divL y (ws.drop k)).1))) ∧ Hid (w.grownBy wr (some b)) ∧ Hid (wr.heap.size = w.heap.size)) (fun _ i _ => (intOf i + 1).toNat)
  case atStart =>
    have e : ws.drop n = [] := List.drop_eq_nil_of_le (by have := HN.out; omega)
    refine ⟨n, Nat.le_refl _, rfl, by rw [e]; rfl, ?_, Lib.hid (grownBy_drewN _ _ _), Lib.hid rfl⟩
    rw [e, show (divL y []).1 = [] from rfl, show wds [] = [] from rfl, put_nil]
    exact Lib.hid (HA.out.drewN _)
  case round =>
    obtain ⟨k, hk, rfl, rfl, H1, H2, H3⟩ := hrel
    cases k with
    | zero =>
      go_wp2_with fail
      go_ret
      have := H1.out
      rw [List.drop_zero] at this ⊢
      exact ⟨rfl, this, H2.out, H3.out⟩
    | succ k =>
      obtain ⟨x, hx⟩ : ∃ x, ws[k]? = some x := ⟨_, List.getElem?_eq_getElem (by have := HN.out; omega)⟩
      have hxB := HW.out x (List.mem_of_getElem? hx)
      have hdr := divL_drop y hx
      have hy0 : 0 < y := by have := HY.out.1; have := WB_pos; omega
      have hrl := divL_rem hy0 (ws.drop (k + 1))
      have hdl : (divL y (ws.drop (k + 1))).1.length = n - (k + 1) := by rw [divL_len, List.length_drop, HN.out]
      obtain ⟨r, hr⟩ : ∃ r, r = (divL y (ws.drop (k + 1))).2 := ⟨_, rfl⟩
      rw [← hr] at hdr hrl ⊢
      have hc := fun w => divWW_any r x y m HY.out.1 HY.out.2 hrl hxB HM.out w
      obtain ⟨qq, hqq⟩ : ∃ qq, qq = (r * WB + x) / y := ⟨_, rfl⟩
      obtain ⟨rr, hrr⟩ : ∃ rr, rr = (r * WB + x) % y := ⟨_, rfl⟩
      rw [← hqq, ← hrr] at hc hdr
      have hcx : wr.cell? ⟨b, k, none⟩ = some (.int .u64 (x : Int)) := H1.out.cell (by rw [put_get_lo (by omega) (by omega)]; have := HS.out k x hx; rwa [Nat.zero_add] at this)
      have hfz := H1.out.free k
      have hnx : ∀ q, Arr ((wr.drewN q).setCell ⟨b, k, none⟩ (word qq)) b 160 (put cs k (wds (qq :: (divL y (ws.drop (k + 1))).1))) := fun q => by
        have := (H1.out.drewN q).set k (word qq)
        rw [← put_cons (by rw [wds_length, hdl]; omega)] at this
        exact this
      have HC := Lib.hid hc
      have HD := Lib.hid hdr
      have HNX := Lib.hid hnx
      clear hc hdr hnx hqq hrr hr hdl hrl hx hxB hy0
      rw [show (((k + 1 : Nat) : Int) - 1) = (k : Int) by omega]
      go_wp2_with fail
      (with_reducible refine (HC.out _).mono ?_)
      rintro e w2 ⟨rfl, q2, rfl⟩
      go_wp2_with fail
      go_roundw
      case rel =>
        refine ⟨k, by omega, by go_num, by rw [HD.out], ?_, ?_, ?_⟩
        · rw [HD.out]; exact Lib.hid (HNX.out _)
        · exact Lib.hid (grown_trans H2.out (grown_trans (grownBy_drewN _ _ _) (grownBy_set _ _ _ _)))
        · exact Lib.hid ((size_set _ _ _).trans H3.out)
      case measure => simp [intOf]

/-- Division by 10^19, of numbers of any words. -/
theorem divW_all (hR : RecOk Y19) (K : Nat) : DivWSaid K := by
  intro b cap ws cs w hA hc hs hp hK hl hcap hw
  by_cases h1 : ws.length ≤ 1
  · exact divW_one b cap ws cs w hA hc hs hp h1 hl hcap hw
  · obtain ⟨n, hn⟩ : ∃ n, n = ws.length := ⟨_, rfl⟩
    obtain ⟨Q, hQ⟩ : ∃ Q, Q = (divL Y19 ws).1 := ⟨_, rfl⟩
    obtain ⟨r, hr⟩ : ∃ r, r = (divL Y19 ws).2 := ⟨_, rfl⟩
    have hQl : Q.length = n := by rw [hQ, divL_len, hn]
    have hwv := divWVW_any b cap cap Y19 ws cs w hA hs (by omega) (by omega) (by omega) hw (by unfold Y19 WB; omega) (by unfold Y19 WB; omega) hR
    rw [← hQ, ← hr, ← hn] at hwv
    rw [← hQ, ← hr, ← hn]
    rw [← hn] at hl h1
    have HWV := Lib.hid hwv
    have HQL := Lib.hid hQl
    have hcs : n ≤ cs.length := by omega
    have hn1 : ((n : Int) == 0) = false := by simp only [beq_eq_false_iff_ne, ne_eq]; omega
    rw [show ((Y19 : Nat) : Int) = 10000000000000000000 from rfl] at HWV
    clear hwv hA hs hQ hr hw hK hc hn hQl hp
    go_enter Tryz.func151, Tryz.ntmps151
    go_wp2_with fail
    (with_reducible refine (make_fits (some ⟨b, 0, none⟩) n cap n hl hcap w).mono ?_)
    rintro e w1 ⟨rfl, rfl⟩
    go_wp2_with fail
    (with_reducible refine HWV.out.mono ?_)
    rintro e w1 ⟨rfl, h1, h2, h3⟩
    have hno := norm_any b 0 cap Q w1 (fun i y hy => h1.cell (by
      rw [put_get_in (by omega) (by rw [wds_length]; exact (List.getElem?_eq_some_iff.1 hy).1)]
      exact wds_get hy)) (by have := HQL.out; omega) (by have := HQL.out; omega)
    rw [HQL.out] at hno
    have H1 := Lib.hid h1
    have H2 := Lib.hid h2
    have H3 := Lib.hid h3
    have HNO := Lib.hid hno
    clear h1 h2 h3 hno
    go_wp2_with fail
    (with_reducible refine HNO.out.mono ?_)
    rintro e w2 ⟨rfl, rfl⟩
    go_wp2_with fail
    go_ret2
    exact ⟨rfl, H1.out, H2.out, H3.out⟩
end Go.Proofs.Tz

/- Contract of mulAddVWW where the source lies in another block, or ahead of the target in the same one. -/
namespace Go.Proofs.Tz
open Go.RowKit Mv

/-- The words that are read lie in another block than bz, or ahead of oz in it. -/
def SourceD (w : World) (bz oz bx ox : Nat) (xs : List Nat) : Prop :=
  (∀ i x, xs[i]? = some x → w.cell? ⟨bx, ox + i, none⟩ = some (word x)) ∧ (bx ≠ bz ∨ ox + xs.length ≤ oz) ∧ bx < w.heap.size
theorem SourceD.at_ {w wr : World} {bz oz bx ox : Nat} {xs ys : List Nat} {T : TypeId} {cs : List Value} (h : SourceD w bz oz bx ox xs) (hA : Arr w bz T cs) (hg : w.grownBy wr (some bz)) (hl : oz + xs.length ≤ cs.length)
    {k x : Nat} (hk : xs[k]? = some x) (_hy : ys.length = k) (hW : Arr wr bz T (put cs oz (wds ys))) : wr.cell? ⟨bx, ox + k, none⟩ = some (word x) := by
  have hc := h.1 k x hk
  have hkl : k < xs.length := (List.getElem?_eq_some_iff.1 hk).1
  by_cases e : bx = bz
  · subst e
    have e2 : ox + xs.length ≤ oz := by rcases h.2.1 with h | h; exact absurd rfl h; exact h
    refine hW.cell ?_
    rw [put_get_lo (by omega) (by omega)]
    unfold Arr at hA
    simpa [World.cell?, hA] using hc
  · refine (World.cell?_of_block (hg.block bx h.2.2 (by simpa using e))).trans hc

set_option maxHeartbeats 1000000 in
theorem mulAddVWW_gD (bz oz cz bx ox cx : Nat) (xs : List Nat) (y r : Nat) (T : TypeId) (cs : List Value) (w : World) (hA : Arr w bz T cs) (hS : SourceD w bz oz bx ox xs) (hl : oz + xs.length ≤ cs.length)
    (hm : xs.length ≤ 1000000000) (hx : Ws xs) (hy : y < WB) (hr : r < WB) :
    Calls Tryz.prog 172 #[.slice (some ⟨bz, oz, none⟩) xs.length cz, .slice (some ⟨bx, ox, none⟩) xs.length cx, .int .u64 y, .int .u64 r] w fun e w' =>
      e = .returned (.int .u64 (mulAddL y r xs).2) ∧ Arr w' bz T (put cs oz (wds (mulAddL y r xs).1)) ∧ w.grownBy w' (some bz) ∧ w'.heap.size = w.heap.size := by
  have HA := Lib.hid hA
  have HS := Lib.hid hS
  have HX := Lib.hid hx
  clear hA hS hx
  have hg0 := Lib.hid (grownBy_refl w (some bz))
  go_enter Tryz.func172, Tryz.ntmps172
  go_wp2
  go_loopw [8, 19] (fun c i wr => ∃ k : Nat, k ≤ xs.length ∧ i = .int .i64 k ∧ c = .int .u64 ((mulAddL y r (xs.take k)).2 : Nat) ∧ Hid (Arr wr bz T (put cs oz (wds (mulAddL y r (xs.take k)).1))) ∧ Hid (w.grownBy wr (some bz)) ∧ Hid (wr.heap.size = w.heap.size)) (fun _ i _ => xs.length - (intOf i).toNat)
  case atStart =>
    refine ⟨0, Nat.zero_le _, rfl, rfl, ?_, hg0, Lib.hid rfl⟩
    have := HA.out
    rw [List.take_zero, show (mulAddL y r []).1 = [] from rfl, show wds [] = [] from rfl, put_nil]
    exact Lib.hid this
  case round =>
    obtain ⟨k, hk, rfl, rfl, HW, HG, HZ⟩ := hrel
    by_cases hlt : k < xs.length
    · obtain ⟨x, hxk⟩ : ∃ x, xs[k]? = some x := ⟨_, List.getElem?_eq_getElem hlt⟩
      have hyl : (mulAddL y r (xs.take k)).1.length = k := by rw [mulAddL_len]; simp; omega
      have hxB : x < WB := HX.out x (List.mem_of_getElem? hxk)
      have hcB : (mulAddL y r (xs.take k)).2 < WB := (mulAddL_ws hy (fun z hz => HX.out z (List.mem_of_mem_take hz)) r hr).2
      obtain ⟨c, hc⟩ : ∃ c, c = (mulAddL y r (xs.take k)).2 := ⟨_, rfl⟩
      have hcell := HS.out.at_ HA.out HG.out hl hxk hyl HW.out
      have hst := mulAddL_get y xs r k x hxk
      rw [← hc] at hst hcB ⊢
      have hnext : (mulAddL y r (xs.take (k + 1))).1 = (mulAddL y r (xs.take k)).1 ++ [(x * y + c) % WB] := by
        rw [List.take_succ_eq_append_getElem hlt, mulAddL_snoc]
        have : xs[k] = x := by rw [List.getElem?_eq_getElem hlt] at hxk; injection hxk
        rw [this, ← hc]
      have HN := Lib.hid hnext
      have HT := Lib.hid hst.2
      have HY := Lib.hid hyl
      have HC := Lib.hid hc
      clear hnext hst hyl hc hxk
      have hfz := HW.out.free (oz + k)
      have hcz : wr.cell? ⟨bz, oz + k, none⟩ = some ((put cs oz (wds (mulAddL y r (xs.take k)).1))[oz + k]'(by rw [put_length (by rw [wds_length, HY.out]; omega)]; omega)) := HW.out.cell (List.getElem?_eq_getElem _)
      go_wp2_with (go_at_call 199; refine (mulAddWWW_any _ _ _ hxB hy hcB _).mono ?_; rintro e w' ⟨rfl, rfl⟩)
      go_roundw
      case rel =>
        refine ⟨k + 1, by omega, by go_num, ?_, ?_, ?_, ?_⟩
        · rw [HT.out]; simp
        · have h1 := HW.out.set (oz + k) (word ((x * y + c) % WB))
          rw [HN.out, wds_append]
          show Arr _ bz T (put cs oz (wds (mulAddL y r (xs.take k)).1 ++ [word ((x * y + c) % WB)]))
          rw [put_snoc (by rw [wds_length, HY.out]; omega), wds_length, HY.out]
          exact Lib.hid h1
        · exact Lib.hid (grown_trans HG.out (grownBy_set _ _ _ _))
        · exact Lib.hid ((size_set _ _ _).trans HZ.out)
      case measure => simp [intOf]; omega
    · have e : k = xs.length := by omega
      subst e
      go_wp2
      go_ret
      have hW := HW.out
      rw [List.take_length] at hW ⊢
      exact ⟨rfl, hW, HG.out, HZ.out⟩

set_option maxHeartbeats 1000000 in
theorem mulAddVWW_D (bz oz cz bx ox cx : Nat) (xs : List Nat) (y r : Nat) (T : TypeId) (cs : List Value) (w : World) (hA : Arr w bz T cs) (hS : SourceD w bz oz bx ox xs) (hl : oz + xs.length ≤ cs.length)
    (hm : xs.length ≤ 1000000000) (hx : Ws xs) (hy : y < WB) (hr : r < WB) :
    Calls Tryz.prog 148 #[.slice (some ⟨bz, oz, none⟩) xs.length cz, .slice (some ⟨bx, ox, none⟩) xs.length cx, .int .u64 y, .int .u64 r] w fun e w' =>
      e = .returned (.int .u64 (mulAddL y r xs).2) ∧ Arr w' bz T (put cs oz (wds (mulAddL y r xs).1)) ∧ w.grownBy w' (some bz) ∧ w'.heap.size = w.heap.size := by
  have HA := Lib.hid hA
  have HS := Lib.hid hS
  have HX := Lib.hid hx
  clear hA hS hx
  go_enter Tryz.func148, Tryz.ntmps148
  go_wp2_with fail
  refine (mulAddVWW_gD bz oz cz bx ox cx xs y r T cs w HA.out HS.out hl hm HX.out hy hr).mono ?_
  rintro e w' ⟨rfl, h1, h2, h3⟩
  go_wp2_with fail
  go_ret
  exact ⟨rfl, h1, h2, h3⟩

end Go.Proofs.Tz

/- Contracts of addVV_g, subVV_g, addMulVVWW_g: a row changed in place by another one (printed by gen_g1.py). -/
namespace Go.Proofs.Tz
open Go.RowKit Mv

theorem quiet_leftG {P : Program} {f : FuncId} {args : Array Value} {w : World} {n : Nat} {v : Value} (h : Calls P f args (w.drewN n) fun e w' => e = .returned v ∧ w.drewN n = w') :
    Calls P f args (w.drewN n) fun e w'' => e = .returned v ∧ ∃ m, w'' = w.drewN m := h.mono fun _ _ ⟨he, hm⟩ => ⟨he, n, hm.symm⟩
theorem zip_get {xs ys : List Nat} {k x y : Nat} (hx : xs[k]? = some x) (hy : ys[k]? = some y) : (xs.zip ys)[k]? = some (x, y) := by
  rw [List.getElem?_zip_eq_some]; exact ⟨hx, hy⟩
/-- A row that is changed in place, k words of it done. -/
theorem row_next {w wr : World} {bz oz : Nat} {T : TypeId} {cs : List Value} {zs : List Nat} {k v : Nat} (hW : Arr wr bz T (put cs oz (wds zs))) (hz : zs.length = k) (hl : oz + k < cs.length) (hg : w.grownBy wr (some bz)) (hs : wr.heap.size = w.heap.size) :
    Arr (wr.setCell ⟨bz, oz + k, none⟩ (word v)) bz T (put cs oz (wds (zs ++ [v]))) ∧ w.grownBy (wr.setCell ⟨bz, oz + k, none⟩ (word v)) (some bz) ∧ (wr.setCell ⟨bz, oz + k, none⟩ (word v)).heap.size = w.heap.size := by
  refine ⟨?_, grown_trans hg (grownBy_set _ _ _ _), (size_set _ _ _).trans hs⟩
  have h1 := hW.set (oz + k) (word v)
  rw [wds_append]
  show Arr _ bz T (put cs oz (wds zs ++ [word v]))
  rw [put_snoc (by rw [wds_length]; omega), wds_length, hz]
  exact h1

set_option maxHeartbeats 4000000 in
set_option maxRecDepth 100000 in
theorem addVV_g_any (bz oz cz cz2 bY oY cY : Nat) (xs ys : List Nat) (T : TypeId) (cs : List Value) (w : World) (hA : Arr w bz T cs) (hX : Sub cs oz xs) (hY : ∀ i y, ys[i]? = some y → w.cell? ⟨bY, oY + i, none⟩ = some (word y)) (hne : bY ≠ bz)
    (hn : xs.length = ys.length) (hl : oz + xs.length ≤ cs.length) (hm : xs.length ≤ 1000000) (hx : Ws xs) (hy : Ws ys) :
    Calls Tryz.prog 232 #[.slice (some ⟨bz, oz, none⟩) xs.length cz, .slice (some ⟨bz, oz, none⟩) xs.length cz2, .slice (some ⟨bY, oY, none⟩) xs.length cY] w fun e w' =>
      e = .returned (.int .u64 (addL xs ys).2) ∧ Arr w' bz T (put cs oz (wds (addL xs ys).1)) ∧ w.grownBy w' (some bz) ∧ w'.heap.size = w.heap.size := by
  obtain ⟨zp, hzp⟩ : ∃ zp, zp = xs.zip ys := ⟨_, rfl⟩
  have hzl : zp.length = xs.length := by rw [hzp, List.length_zip]; omega
  have hR : addL xs ys = carL fAdd gAdd 0 zp := by rw [hzp]; rfl
  rw [hR]
  have hmem : ∀ a ∈ zp, a.1 < WB ∧ a.2 < WB := fun a ha => zip_lt hx hy (by rw [← hzp]; exact ha)
  have hpair : ∀ k x y, xs[k]? = some x → ys[k]? = some y → zp[k]? = some (x, y) := fun k x y h1 h2 => by rw [hzp]; exact zip_get h1 h2
  have HA := Lib.hid hA
  have HX := Lib.hid hX
  have HY := Lib.hid hY
  have HM := Lib.hid hmem
  have HP := Lib.hid hpair
  have hyL : ys.length = xs.length := hn.symm
  have hbY : ∀ k y, ys[k]? = some y → ∀ wr : World, w.grownBy wr (some bz) → wr.cell? ⟨bY, oY + k, none⟩ = some (word y) := fun k y hk wr hg => by
    have hc := hY k y hk
    refine (World.cell?_of_block (hg.block bY (World.block_lt_of_cell? w _ hc) (by simpa using hne))).trans hc
  have HBY := Lib.hid hbY
  clear hA hX hY hmem hpair hx hy hzp hR hbY hn
  go_enter Tryz.func232, Tryz.ntmps232
  go_wp2_with fail
  go_loopw [6, 7, 8, 9, 25] (fun c a0 a1 a2 i wr => ∃ (v0 v1 v2 : Value) (k : Nat), v0 = a0 ∧ v1 = a1 ∧ v2 = a2 ∧ k ≤ xs.length ∧ i = .int .i64 (k : Int) ∧ c = .int .u64 ((carL fAdd gAdd 0 (zp.take k)).2 : Nat) ∧ Hid (Arr wr bz T (put cs oz (wds (carL fAdd gAdd 0 (zp.take k)).1))) ∧ Hid (w.grownBy wr (some bz)) ∧ Hid (wr.heap.size = w.heap.size)) (fun _ _ _ _ i _ => xs.length - (intOf i).toNat)
  case atStart =>
    refine ⟨_, _, _, 0, rfl, rfl, rfl, Nat.zero_le _, rfl, rfl, ?_, Lib.hid (grownBy_refl _ _), Lib.hid rfl⟩
    have := HA.out
    rw [List.take_zero, show (carL fAdd gAdd 0 ([] : List (Nat × Nat))).1 = [] from rfl, show wds [] = [] from rfl, put_nil]
    exact Lib.hid this
  case round =>
    obtain ⟨v0, v1, v2, k, rfl, rfl, rfl, hk, rfl, rfl, HW, HG, HZ⟩ := hrel
    by_cases hlt : k < xs.length
    · obtain ⟨x, hxk⟩ : ∃ x, xs[k]? = some x := ⟨_, List.getElem?_eq_getElem hlt⟩
      obtain ⟨y, hyk⟩ : ∃ y, ys[k]? = some y := ⟨_, List.getElem?_eq_getElem (by omega)⟩
      have hpk := HP.out k x y hxk hyk
      have hxB : x < WB := (HM.out _ (List.mem_of_getElem? hpk)).1
      have hyB : y < WB := (HM.out _ (List.mem_of_getElem? hpk)).2
      have hst := carL_step fAdd gAdd zp 0 hpk
      have hzk : (carL fAdd gAdd 0 (zp.take k)).1.length = k := by rw [carL_len, List.length_take]; omega
      have hcB : (carL fAdd gAdd 0 (zp.take k)).2 ≤ 1 := carL_le (fun a ha _ hc => gAdd_le (HM.out a (List.mem_of_mem_take ha)).1 (HM.out a (List.mem_of_mem_take ha)).2 hc) (by omega)
      obtain ⟨c, hc⟩ : ∃ c, c = (carL fAdd gAdd 0 (zp.take k)).2 := ⟨_, rfl⟩
      obtain ⟨zs, hzs⟩ : ∃ zs, zs = (carL fAdd gAdd 0 (zp.take k)).1 := ⟨_, rfl⟩
      rw [← hc, ← hzs] at hst
      rw [← hc] at hcB ⊢
      rw [← hzs] at HW hzk
      have hcx : wr.cell? ⟨bz, oz + k, none⟩ = some (.int .u64 (x : Int)) := HW.out.cell (by rw [put_get_hi (by omega) (by rw [wds_length]; omega)]; exact HX.out k x hxk)
      have hcy : wr.cell? ⟨bY, oY + k, none⟩ = some (.int .u64 (y : Int)) := HBY.out k y hyk wr HG.out
      have hfz := HW.out.free (oz + k)
      have hnx := fun n v => row_next (v := v) (HW.out.drewN n) hzk (by omega) (grown_trans HG.out (show wr.grownBy (wr.drewN n) (some bz) from ⟨rfl, rfl, rfl, Nat.le_refl _, fun _ _ _ => rfl⟩)) (show (wr.drewN n).heap.size = w.heap.size from HZ.out)
      have HN := Lib.hid hnx
      obtain ⟨sv, hsv⟩ : ∃ s, s = fAdd (x, y) c := ⟨_, rfl⟩
      obtain ⟨dv, hdv⟩ : ∃ s, s = gAdd (x, y) c := ⟨_, rfl⟩
      rw [← hsv, ← hdv] at hst
      have HT := Lib.hid hst
      have hcall : ∀ w : World, Calls Tryz.prog 234 #[.int .u64 x, .int .u64 y, .int .u64 c] w fun e w' => e = .returned (.tuple #[.int .u64 (sv : Int), .int .u64 (dv : Int)]) ∧ w = w' := fun w => by
        rw [hsv, hdv]; exact add_any x y c hcB w
      have HCALL := Lib.hid hcall
      clear hcall hsv hdv
      have hk0 : (0 : Int) ≤ (k : Int) := by omega
      have hk1 : (k : Int) < (xs.length : Int) := by omega
      clear hnx hst hxk hyk hpk hc hzs hzk
      go_wp2_with fail
      go_quiet (first | (go_at_call 234; exact quiet_leftG (HCALL.out _)))
      go_wp2_with fail
      go_roundw
      case rel =>
        refine ⟨_, _, _, k + 1, rfl, rfl, rfl, by omega, by go_num, ?_, ?_, ?_, ?_⟩
        · rw [HT.out.2]
        · rw [HT.out.1]; exact Lib.hid ((HN.out _ _).1)
        · exact Lib.hid (HN.out _ _).2.1
        · exact Lib.hid (HN.out _ _).2.2
      case measure => simp [intOf]; omega
    · have e : k = xs.length := by omega
      subst e
      have e2 : zp.take xs.length = zp := List.take_of_length_le (by omega)
      rw [e2] at HW ⊢
      go_wp2_with fail
      go_ret
      exact ⟨rfl, HW.out, HG.out, HZ.out⟩

set_option maxHeartbeats 4000000 in
set_option maxRecDepth 100000 in
theorem subVV_g_any (bz oz cz cz2 bY oY cY : Nat) (xs ys : List Nat) (T : TypeId) (cs : List Value) (w : World) (hA : Arr w bz T cs) (hX : Sub cs oz xs) (hY : ∀ i y, ys[i]? = some y → w.cell? ⟨bY, oY + i, none⟩ = some (word y)) (hne : bY ≠ bz)
    (hn : xs.length = ys.length) (hl : oz + xs.length ≤ cs.length) (hm : xs.length ≤ 1000000) (hx : Ws xs) (hy : Ws ys) :
    Calls Tryz.prog 247 #[.slice (some ⟨bz, oz, none⟩) xs.length cz, .slice (some ⟨bz, oz, none⟩) xs.length cz2, .slice (some ⟨bY, oY, none⟩) xs.length cY] w fun e w' =>
      e = .returned (.int .u64 (subL xs ys).2) ∧ Arr w' bz T (put cs oz (wds (subL xs ys).1)) ∧ w.grownBy w' (some bz) ∧ w'.heap.size = w.heap.size := by
  obtain ⟨zp, hzp⟩ : ∃ zp, zp = xs.zip ys := ⟨_, rfl⟩
  have hzl : zp.length = xs.length := by rw [hzp, List.length_zip]; omega
  have hR : subL xs ys = carL fSub gSub 0 zp := by rw [hzp]; rfl
  rw [hR]
  have hmem : ∀ a ∈ zp, a.1 < WB ∧ a.2 < WB := fun a ha => zip_lt hx hy (by rw [← hzp]; exact ha)
  have hpair : ∀ k x y, xs[k]? = some x → ys[k]? = some y → zp[k]? = some (x, y) := fun k x y h1 h2 => by rw [hzp]; exact zip_get h1 h2
  have HA := Lib.hid hA
  have HX := Lib.hid hX
  have HY := Lib.hid hY
  have HM := Lib.hid hmem
  have HP := Lib.hid hpair
  have hyL : ys.length = xs.length := hn.symm
  have hbY : ∀ k y, ys[k]? = some y → ∀ wr : World, w.grownBy wr (some bz) → wr.cell? ⟨bY, oY + k, none⟩ = some (word y) := fun k y hk wr hg => by
    have hc := hY k y hk
    refine (World.cell?_of_block (hg.block bY (World.block_lt_of_cell? w _ hc) (by simpa using hne))).trans hc
  have HBY := Lib.hid hbY
  clear hA hX hY hmem hpair hx hy hzp hR hbY hn
  go_enter Tryz.func247, Tryz.ntmps247
  go_wp2_with fail
  go_loopw [6, 7, 8, 9, 25] (fun c a0 a1 a2 i wr => ∃ (v0 v1 v2 : Value) (k : Nat), v0 = a0 ∧ v1 = a1 ∧ v2 = a2 ∧ k ≤ xs.length ∧ i = .int .i64 (k : Int) ∧ c = .int .u64 ((carL fSub gSub 0 (zp.take k)).2 : Nat) ∧ Hid (Arr wr bz T (put cs oz (wds (carL fSub gSub 0 (zp.take k)).1))) ∧ Hid (w.grownBy wr (some bz)) ∧ Hid (wr.heap.size = w.heap.size)) (fun _ _ _ _ i _ => xs.length - (intOf i).toNat)
  case atStart =>
    refine ⟨_, _, _, 0, rfl, rfl, rfl, Nat.zero_le _, rfl, rfl, ?_, Lib.hid (grownBy_refl _ _), Lib.hid rfl⟩
    have := HA.out
    rw [List.take_zero, show (carL fSub gSub 0 ([] : List (Nat × Nat))).1 = [] from rfl, show wds [] = [] from rfl, put_nil]
    exact Lib.hid this
  case round =>
    obtain ⟨v0, v1, v2, k, rfl, rfl, rfl, hk, rfl, rfl, HW, HG, HZ⟩ := hrel
    by_cases hlt : k < xs.length
    · obtain ⟨x, hxk⟩ : ∃ x, xs[k]? = some x := ⟨_, List.getElem?_eq_getElem hlt⟩
      obtain ⟨y, hyk⟩ : ∃ y, ys[k]? = some y := ⟨_, List.getElem?_eq_getElem (by omega)⟩
      have hpk := HP.out k x y hxk hyk
      have hxB : x < WB := (HM.out _ (List.mem_of_getElem? hpk)).1
      have hyB : y < WB := (HM.out _ (List.mem_of_getElem? hpk)).2
      have hst := carL_step fSub gSub zp 0 hpk
      have hzk : (carL fSub gSub 0 (zp.take k)).1.length = k := by rw [carL_len, List.length_take]; omega
      have hcB : (carL fSub gSub 0 (zp.take k)).2 ≤ 1 := carL_le (fun a _ c _ => gSub_le a c) (by omega)
      obtain ⟨c, hc⟩ : ∃ c, c = (carL fSub gSub 0 (zp.take k)).2 := ⟨_, rfl⟩
      obtain ⟨zs, hzs⟩ : ∃ zs, zs = (carL fSub gSub 0 (zp.take k)).1 := ⟨_, rfl⟩
      rw [← hc, ← hzs] at hst
      rw [← hc] at hcB ⊢
      rw [← hzs] at HW hzk
      have hcx : wr.cell? ⟨bz, oz + k, none⟩ = some (.int .u64 (x : Int)) := HW.out.cell (by rw [put_get_hi (by omega) (by rw [wds_length]; omega)]; exact HX.out k x hxk)
      have hcy : wr.cell? ⟨bY, oY + k, none⟩ = some (.int .u64 (y : Int)) := HBY.out k y hyk wr HG.out
      have hfz := HW.out.free (oz + k)
      have hnx := fun n v => row_next (v := v) (HW.out.drewN n) hzk (by omega) (grown_trans HG.out (show wr.grownBy (wr.drewN n) (some bz) from ⟨rfl, rfl, rfl, Nat.le_refl _, fun _ _ _ => rfl⟩)) (show (wr.drewN n).heap.size = w.heap.size from HZ.out)
      have HN := Lib.hid hnx
      obtain ⟨sv, hsv⟩ : ∃ s, s = fSub (x, y) c := ⟨_, rfl⟩
      obtain ⟨dv, hdv⟩ : ∃ s, s = gSub (x, y) c := ⟨_, rfl⟩
      rw [← hsv, ← hdv] at hst
      have HT := Lib.hid hst
      have hcall : ∀ w : World, Calls Tryz.prog 239 #[.int .u64 x, .int .u64 y, .int .u64 c] w fun e w' => e = .returned (.tuple #[.int .u64 (sv : Int), .int .u64 (dv : Int)]) ∧ w = w' := fun w => by
        rw [hsv, hdv]; exact sub_any x y c hcB w
      have HCALL := Lib.hid hcall
      clear hcall hsv hdv
      have hk0 : (0 : Int) ≤ (k : Int) := by omega
      have hk1 : (k : Int) < (xs.length : Int) := by omega
      clear hnx hst hxk hyk hpk hc hzs hzk
      go_wp2_with fail
      go_quiet (first | (go_at_call 239; exact quiet_leftG (HCALL.out _)))
      go_wp2_with fail
      go_roundw
      case rel =>
        refine ⟨_, _, _, k + 1, rfl, rfl, rfl, by omega, by go_num, ?_, ?_, ?_, ?_⟩
        · rw [HT.out.2]
        · rw [HT.out.1]; exact Lib.hid ((HN.out _ _).1)
        · exact Lib.hid (HN.out _ _).2.1
        · exact Lib.hid (HN.out _ _).2.2
      case measure => simp [intOf]; omega
    · have e : k = xs.length := by omega
      subst e
      have e2 : zp.take xs.length = zp := List.take_of_length_le (by omega)
      rw [e2] at HW ⊢
      go_wp2_with fail
      go_ret
      exact ⟨rfl, HW.out, HG.out, HZ.out⟩

theorem carL_lt {α : Type} {f g : α → Nat → Nat} {B : Nat} : ∀ {l : List α} {c : Nat}, (∀ a ∈ l, ∀ c, c < B → g a c < B) → c < B → (carL f g c l).2 < B
  | [], _, _, hc => hc
  | a :: l, c, h, hc => by rw [carL]; exact carL_lt (fun x hx => h x (by simp [hx])) (h a (by simp) c hc)
theorem mul_split {x y m c : Nat} : ((y * m + x) % WB + c + 0) % WB = fMul m (x, y) c ∧ ((y * m + x) % WB + c + 0) / WB + (y * m + x) / WB = gMul m (x, y) c := by
  unfold fMul gMul
  have h := Nat.mod_add_div (y * m + x) WB
  obtain ⟨lo, hlo⟩ : ∃ l, l = (y * m + x) % WB := ⟨_, rfl⟩
  obtain ⟨hi, hhi⟩ : ∃ l, l = (y * m + x) / WB := ⟨_, rfl⟩
  rw [← hlo, ← hhi] at h ⊢
  rw [show y * m + x + c = lo + c + 0 + WB * hi by omega, Nat.add_mul_mod_self_left, Nat.add_mul_div_left _ _ WB_pos]
  exact ⟨rfl, rfl⟩

set_option maxHeartbeats 4000000 in
set_option maxRecDepth 100000 in
theorem addMulVVWW_g_any (bz oz cz cz2 bY oY cY : Nat) (xs ys : List Nat) (m : Nat) (T : TypeId) (cs : List Value) (w : World) (hA : Arr w bz T cs) (hX : Sub cs oz xs) (hY : ∀ i y, ys[i]? = some y → w.cell? ⟨bY, oY + i, none⟩ = some (word y)) (hne : bY ≠ bz)
    (hn : xs.length = ys.length) (hl : oz + xs.length ≤ cs.length) (hm : xs.length ≤ 1000000) (hx : Ws xs) (hy : Ws ys) (hmB : m < WB) :
    Calls Tryz.prog 226 #[.slice (some ⟨bz, oz, none⟩) xs.length cz, .slice (some ⟨bz, oz, none⟩) xs.length cz2, .slice (some ⟨bY, oY, none⟩) xs.length cY, .int .u64 (m : Int), .int .u64 0] w fun e w' =>
      e = .returned (.int .u64 (addMulL m xs ys).2) ∧ Arr w' bz T (put cs oz (wds (addMulL m xs ys).1)) ∧ w.grownBy w' (some bz) ∧ w'.heap.size = w.heap.size := by
  obtain ⟨zp, hzp⟩ : ∃ zp, zp = xs.zip ys := ⟨_, rfl⟩
  have hzl : zp.length = xs.length := by rw [hzp, List.length_zip]; omega
  have hR : addMulL m xs ys = carL (fMul m) (gMul m) 0 zp := by rw [hzp]; rfl
  rw [hR]
  have hmem : ∀ a ∈ zp, a.1 < WB ∧ a.2 < WB := fun a ha => zip_lt hx hy (by rw [← hzp]; exact ha)
  have hpair : ∀ k x y, xs[k]? = some x → ys[k]? = some y → zp[k]? = some (x, y) := fun k x y h1 h2 => by rw [hzp]; exact zip_get h1 h2
  have HA := Lib.hid hA
  have HX := Lib.hid hX
  have HY := Lib.hid hY
  have HM := Lib.hid hmem
  have HP := Lib.hid hpair
  have hyL : ys.length = xs.length := hn.symm
  have hbY : ∀ k y, ys[k]? = some y → ∀ wr : World, w.grownBy wr (some bz) → wr.cell? ⟨bY, oY + k, none⟩ = some (word y) := fun k y hk wr hg => by
    have hc := hY k y hk
    refine (World.cell?_of_block (hg.block bY (World.block_lt_of_cell? w _ hc) (by simpa using hne))).trans hc
  have HBY := Lib.hid hbY
  clear hA hX hY hmem hpair hx hy hzp hR hbY hn
  go_enter Tryz.func226, Tryz.ntmps226
  go_wp2_with fail
  go_loopw [10, 11, 12, 13, 14, 15, 32] (fun c a0 a1 a2 a3 a4 i wr => ∃ (v0 v1 v2 v3 v4 : Value) (k : Nat), v0 = a0 ∧ v1 = a1 ∧ v2 = a2 ∧ v3 = a3 ∧ v4 = a4 ∧ k ≤ xs.length ∧ i = .int .i64 (k : Int) ∧ c = .int .u64 ((carL (fMul m) (gMul m) 0 (zp.take k)).2 : Nat) ∧ Hid (Arr wr bz T (put cs oz (wds (carL (fMul m) (gMul m) 0 (zp.take k)).1))) ∧ Hid (w.grownBy wr (some bz)) ∧ Hid (wr.heap.size = w.heap.size)) (fun _ _ _ _ _ _ i _ => xs.length - (intOf i).toNat)
  case atStart =>
    refine ⟨_, _, _, _, _, 0, rfl, rfl, rfl, rfl, rfl, Nat.zero_le _, rfl, rfl, ?_, Lib.hid (grownBy_refl _ _), Lib.hid rfl⟩
    have := HA.out
    rw [List.take_zero, show (carL (fMul m) (gMul m) 0 ([] : List (Nat × Nat))).1 = [] from rfl, show wds [] = [] from rfl, put_nil]
    exact Lib.hid this
  case round =>
    obtain ⟨v0, v1, v2, v3, v4, k, rfl, rfl, rfl, rfl, rfl, hk, rfl, rfl, HW, HG, HZ⟩ := hrel
    by_cases hlt : k < xs.length
    · obtain ⟨x, hxk⟩ : ∃ x, xs[k]? = some x := ⟨_, List.getElem?_eq_getElem hlt⟩
      obtain ⟨y, hyk⟩ : ∃ y, ys[k]? = some y := ⟨_, List.getElem?_eq_getElem (by omega)⟩
      have hpk := HP.out k x y hxk hyk
      have hxB : x < WB := (HM.out _ (List.mem_of_getElem? hpk)).1
      have hyB : y < WB := (HM.out _ (List.mem_of_getElem? hpk)).2
      have hst := carL_step (fMul m) (gMul m) zp 0 hpk
      have hzk : (carL (fMul m) (gMul m) 0 (zp.take k)).1.length = k := by rw [carL_len, List.length_take]; omega
      have hcB : (carL (fMul m) (gMul m) 0 (zp.take k)).2 < WB := carL_lt (fun a ha c hc => gMul_lt hmB (HM.out a (List.mem_of_mem_take ha)).1 (HM.out a (List.mem_of_mem_take ha)).2 hc) WB_pos
      obtain ⟨c, hc⟩ : ∃ c, c = (carL (fMul m) (gMul m) 0 (zp.take k)).2 := ⟨_, rfl⟩
      obtain ⟨zs, hzs⟩ : ∃ zs, zs = (carL (fMul m) (gMul m) 0 (zp.take k)).1 := ⟨_, rfl⟩
      rw [← hc, ← hzs] at hst
      rw [← hc] at hcB ⊢
      rw [← hzs] at HW hzk
      have hcx : wr.cell? ⟨bz, oz + k, none⟩ = some (.int .u64 (x : Int)) := HW.out.cell (by rw [put_get_hi (by omega) (by rw [wds_length]; omega)]; exact HX.out k x hxk)
      have hcy : wr.cell? ⟨bY, oY + k, none⟩ = some (.int .u64 (y : Int)) := HBY.out k y hyk wr HG.out
      have hfz := HW.out.free (oz + k)
      have hnx := fun n v => row_next (v := v) (HW.out.drewN n) hzk (by omega) (grown_trans HG.out (show wr.grownBy (wr.drewN n) (some bz) from ⟨rfl, rfl, rfl, Nat.le_refl _, fun _ _ _ => rfl⟩)) (show (wr.drewN n).heap.size = w.heap.size from HZ.out)
      have HN := Lib.hid hnx
      obtain ⟨sv, hsv⟩ : ∃ s, s = (fMul m) (x, y) c := ⟨_, rfl⟩
      obtain ⟨dv, hdv⟩ : ∃ s, s = (gMul m) (x, y) c := ⟨_, rfl⟩
      rw [← hsv, ← hdv] at hst
      have HT := Lib.hid hst
      obtain ⟨lo, hlo⟩ : ∃ l, l = (y * m + x) % WB := ⟨_, rfl⟩
      obtain ⟨hi, hhi⟩ : ∃ l, l = (y * m + x) / WB := ⟨_, rfl⟩
      obtain ⟨cc, hcc⟩ : ∃ l, l = (lo + c + 0) / WB := ⟨_, rfl⟩
      have hms := mul_split (x := x) (y := y) (m := m) (c := c)
      rw [← hlo, ← hhi, ← hsv, ← hdv, ← hcc] at hms
      have hdB : dv < WB := by rw [hdv]; exact gMul_lt hmB hxB hyB hcB
      have hsum : (cc : Int) + (hi : Int) = (dv : Int) := by omega
      have hcall : ∀ w : World, Calls Tryz.prog 199 #[.int .u64 y, .int .u64 m, .int .u64 x] w fun e w' => e = .returned (.tuple #[.int .u64 (hi : Int), .int .u64 (lo : Int)]) ∧ w = w' := fun w => by
        rw [hhi, hlo]; exact mulAddWWW_any y m x hyB hmB hxB w
      have hcall2 : ∀ w : World, Calls Tryz.prog 234 #[.int .u64 lo, .int .u64 c, .int .u64 0] w fun e w' => e = .returned (.tuple #[.int .u64 (sv : Int), .int .u64 (cc : Int)]) ∧ w = w' := fun w => by
        have h := add_any lo c 0 (by omega) w
        rw [hms.1, ← hcc] at h; exact h
      have HCALL := Lib.hid hcall
      have HCALL2 := Lib.hid hcall2
      have hdB2 : (dv : Int) < 18446744073709551616 := by have : dv < 18446744073709551616 := hdB; omega
      clear hcall hcall2 hsv hdv hlo hhi hcc hms hdB
      have hk0 : (0 : Int) ≤ (k : Int) := by omega
      have hk1 : (k : Int) < (xs.length : Int) := by omega
      clear hnx hst hxk hyk hpk hc hzs hzk
      go_wp2_with fail
      go_quiet (first | (go_at_call 199; exact quiet_leftG (HCALL.out _)))
      go_wp2_with fail
      (with_reducible refine (HCALL2.out _).mono ?_)
      rintro e w5 ⟨rfl, rfl⟩
      go_wp2_with fail
      go_roundw
      case rel =>
        refine ⟨_, _, _, _, _, k + 1, rfl, rfl, rfl, rfl, rfl, by omega, by go_num, ?_, ?_, ?_, ?_⟩
        · rw [HT.out.2]
        · rw [HT.out.1]; exact Lib.hid ((HN.out _ _).1)
        · exact Lib.hid (HN.out _ _).2.1
        · exact Lib.hid (HN.out _ _).2.2
      case measure => simp [intOf]; omega
    · have e : k = xs.length := by omega
      subst e
      have e2 : zp.take xs.length = zp := List.take_of_length_le (by omega)
      rw [e2] at HW ⊢
      go_wp2_with fail
      go_ret
      exact ⟨rfl, HW.out, HG.out, HZ.out⟩

end Go.Proofs.Tz

/- Contracts of addVV, subVV, addMulVVWW: they call the _g's (printed by gen_g2.py). -/
namespace Go.Proofs.Tz
open Go.RowKit Mv
set_option maxHeartbeats 1000000 in
theorem addVV_any (bz oz cz cz2 bY oY cY : Nat) (xs ys : List Nat) (T : TypeId) (cs : List Value) (w : World) (hA : Arr w bz T cs) (hX : Sub cs oz xs) (hY : ∀ i y, ys[i]? = some y → w.cell? ⟨bY, oY + i, none⟩ = some (word y)) (hne : bY ≠ bz)
    (hn : xs.length = ys.length) (hl : oz + xs.length ≤ cs.length) (hm : xs.length ≤ 1000000) (hx : Ws xs) (hy : Ws ys) :
    Calls Tryz.prog 195 #[.slice (some ⟨bz, oz, none⟩) xs.length cz, .slice (some ⟨bz, oz, none⟩) xs.length cz2, .slice (some ⟨bY, oY, none⟩) xs.length cY] w fun e w' =>
      e = .returned (.int .u64 (addL xs ys).2) ∧ Arr w' bz T (put cs oz (wds (addL xs ys).1)) ∧ w.grownBy w' (some bz) ∧ w'.heap.size = w.heap.size := by
  have H := Lib.hid (addVV_g_any bz oz cz cz2 bY oY cY xs ys T cs w hA hX hY hne hn hl hm hx hy)
  obtain ⟨R, hR⟩ : ∃ r, r = addL xs ys := ⟨_, rfl⟩
  rw [← hR] at H ⊢
  clear hA hX hY hne hn hl hm hx hy hR
  go_enter Tryz.func195, Tryz.ntmps195
  go_wp2_with fail
  (with_reducible refine (H.out).mono ?_)
  rintro e w1 ⟨rfl, h1, h2, h3⟩
  go_wp2_with fail
  go_ret
  exact ⟨rfl, h1, h2, h3⟩

set_option maxHeartbeats 1000000 in
theorem subVV_any (bz oz cz cz2 bY oY cY : Nat) (xs ys : List Nat) (T : TypeId) (cs : List Value) (w : World) (hA : Arr w bz T cs) (hX : Sub cs oz xs) (hY : ∀ i y, ys[i]? = some y → w.cell? ⟨bY, oY + i, none⟩ = some (word y)) (hne : bY ≠ bz)
    (hn : xs.length = ys.length) (hl : oz + xs.length ≤ cs.length) (hm : xs.length ≤ 1000000) (hx : Ws xs) (hy : Ws ys) :
    Calls Tryz.prog 236 #[.slice (some ⟨bz, oz, none⟩) xs.length cz, .slice (some ⟨bz, oz, none⟩) xs.length cz2, .slice (some ⟨bY, oY, none⟩) xs.length cY] w fun e w' =>
      e = .returned (.int .u64 (subL xs ys).2) ∧ Arr w' bz T (put cs oz (wds (subL xs ys).1)) ∧ w.grownBy w' (some bz) ∧ w'.heap.size = w.heap.size := by
  have H := Lib.hid (subVV_g_any bz oz cz cz2 bY oY cY xs ys T cs w hA hX hY hne hn hl hm hx hy)
  obtain ⟨R, hR⟩ : ∃ r, r = subL xs ys := ⟨_, rfl⟩
  rw [← hR] at H ⊢
  clear hA hX hY hne hn hl hm hx hy hR
  go_enter Tryz.func236, Tryz.ntmps236
  go_wp2_with fail
  (with_reducible refine (H.out).mono ?_)
  rintro e w1 ⟨rfl, h1, h2, h3⟩
  go_wp2_with fail
  go_ret
  exact ⟨rfl, h1, h2, h3⟩

set_option maxHeartbeats 1000000 in
theorem addMulVVWW_any (bz oz cz cz2 bY oY cY : Nat) (xs ys : List Nat) (m : Nat) (T : TypeId) (cs : List Value) (w : World) (hA : Arr w bz T cs) (hX : Sub cs oz xs) (hY : ∀ i y, ys[i]? = some y → w.cell? ⟨bY, oY + i, none⟩ = some (word y)) (hne : bY ≠ bz)
    (hn : xs.length = ys.length) (hl : oz + xs.length ≤ cs.length) (hm : xs.length ≤ 1000000) (hx : Ws xs) (hy : Ws ys) (hmB : m < WB) :
    Calls Tryz.prog 190 #[.slice (some ⟨bz, oz, none⟩) xs.length cz, .slice (some ⟨bz, oz, none⟩) xs.length cz2, .slice (some ⟨bY, oY, none⟩) xs.length cY, .int .u64 (m : Int), .int .u64 0] w fun e w' =>
      e = .returned (.int .u64 (addMulL m xs ys).2) ∧ Arr w' bz T (put cs oz (wds (addMulL m xs ys).1)) ∧ w.grownBy w' (some bz) ∧ w'.heap.size = w.heap.size := by
  have H := Lib.hid (addMulVVWW_g_any bz oz cz cz2 bY oY cY xs ys m T cs w hA hX hY hne hn hl hm hx hy hmB)
  obtain ⟨R, hR⟩ : ∃ r, r = addMulL m xs ys := ⟨_, rfl⟩
  rw [← hR] at H ⊢
  clear hA hX hY hne hn hl hm hx hy hR
  go_enter Tryz.func190, Tryz.ntmps190
  go_wp2_with fail
  (with_reducible refine (H.out).mono ?_)
  rintro e w1 ⟨rfl, h1, h2, h3⟩
  go_wp2_with fail
  go_ret
  exact ⟨rfl, h1, h2, h3⟩

end Go.Proofs.Tz

/- Contract of greaterThan: two words against two words. -/
namespace Go.Proofs.Tz
open Go.RowKit Mv

set_option maxHeartbeats 1000000 in
theorem greater_any (x1 x2 y1 y2 : Nat) (w : World) :
    Calls Tryz.prog 235 #[.int .u64 x1, .int .u64 x2, .int .u64 y1, .int .u64 y2] w fun e w' => e = .returned (.bool (decide (y1 < x1 ∨ (x1 = y1 ∧ y2 < x2)))) ∧ w = w' := by
  obtain ⟨R, hR⟩ : ∃ r, r = decide (y1 < x1 ∨ (x1 = y1 ∧ y2 < x2)) := ⟨_, rfl⟩
  rw [← hR]
  have HR := Lib.hid hR
  clear hR
  by_cases h1 : y1 < x1
  · go_enter Tryz.func235, Tryz.ntmps235
    go_wp2_with fail
    go_ret
    exact ⟨by rw [HR.out]; simp [h1], rfl⟩
  · by_cases h2 : x1 = y1
    · subst h2
      by_cases h3 : y2 < x2
      · go_enter Tryz.func235, Tryz.ntmps235
        go_wp2_with fail
        go_ret
        exact ⟨by rw [HR.out]; simp [h3], rfl⟩
      · go_enter Tryz.func235, Tryz.ntmps235
        go_wp2_with fail
        go_ret
        exact ⟨by rw [HR.out]; simp [h3], rfl⟩
    · have m1 : ((x1 : Int) == (y1 : Int)) = false := by simp only [beq_eq_false_iff_ne, ne_eq]; omega
      go_enter Tryz.func235, Tryz.ntmps235
      go_wp2_with fail
      go_ret
      exact ⟨by rw [HR.out]; simp [h1, h2], rfl⟩
end Go.Proofs.Tz

/- Rows of cells: a part written anew, a part set to zeros, a part copied. -/
namespace Go.Proofs.Mv
theorem upd_get_in {us zs : List Nat} {j i : Nat} (hj : j ≤ us.length) (hi : i < zs.length) : (upd us j zs)[j + i]? = zs[i]? := by
  unfold upd
  rw [List.append_assoc, List.getElem?_append_right (by rw [List.length_take]; omega), List.length_take, Nat.min_eq_left hj, Nat.add_sub_cancel_left, List.getElem?_append_left hi]
end Go.Proofs.Mv
namespace Go.Proofs.Tz
open Go.RowKit Mv

theorem put_wds_upd {cs : List Value} {zl A : List Nat} {off j : Nat} (hj : j + A.length ≤ zl.length) (hl : off + zl.length ≤ cs.length) :
    put (put cs off (wds zl)) (off + j) (wds A) = put cs off (wds (upd zl j A)) := by
  have hz : (wds zl).length = zl.length := wds_length _
  have hA : (wds A).length = A.length := wds_length _
  have hu : (wds (upd zl j A)).length = zl.length := by rw [wds_length, upd_len hj]
  have hp : (put cs off (wds zl)).length = cs.length := put_length (by omega)
  apply List.ext_getElem?
  intro i
  by_cases h1 : i < off
  · rw [put_get_lo (by omega) (by omega), put_get_lo (by omega) h1, put_get_lo (by omega) h1]
  · by_cases h2 : off + zl.length ≤ i
    · rw [put_get_hi (by omega) (by omega), put_get_hi (by omega) (by omega), put_get_hi (by omega) (by omega)]
    · obtain ⟨t, rfl⟩ : ∃ t, i = off + t := ⟨i - off, by omega⟩
      rw [put_get_in (vs := wds (upd zl j A)) (by omega) (by omega)]
      by_cases h3 : t < j
      · rw [put_get_lo (by omega) (by omega), put_get_in (by omega) (by omega)]
        simp only [wds, List.getElem?_map]
        rw [upd_get_lo h3 (by omega)]
      · by_cases h4 : j + A.length ≤ t
        · rw [put_get_hi (by omega) (by omega), put_get_in (by omega) (by omega)]
          simp only [wds, List.getElem?_map]
          rw [upd_get_hi h4 hj]
        · obtain ⟨s, rfl⟩ : ∃ s, t = j + s := ⟨t - j, by omega⟩
          rw [← Nat.add_assoc, put_get_in (by omega) (by omega)]
          simp only [wds, List.getElem?_map]
          rw [upd_get_in (by omega) (by omega)]
theorem put_one1 {cs : List Value} {off : Nat} {v : Value} (h : off < cs.length) : put cs off [v] = cs.set off v := by
  have := put_snoc (cs := cs) (vs := []) (off := off) (v := v) (by simpa using h)
  simpa [put_nil] using this
theorem set_wds_upd {cs : List Value} {zl : List Nat} {off j x : Nat} (hj : j < zl.length) (hl : off + zl.length ≤ cs.length) :
    (put cs off (wds zl)).set (off + j) (word x) = put cs off (wds (zl.set j x)) := by
  have := put_wds_upd (cs := cs) (zl := zl) (A := [x]) (off := off) (j := j) (by simp; omega) hl
  rw [upd_one hj] at this
  rw [← this]
  exact (put_one1 (by rw [put_length (by rw [wds_length]; omega)]; omega)).symm
theorem Sub.upd {cs : List Value} {us A : List Nat} {off j : Nat} (h : Sub cs off us) (hj : j + A.length ≤ us.length) (hl : off + us.length ≤ cs.length) : Sub (put cs (off + j) (wds A)) off (upd us j A) := by
  have e := put_self h hl
  have : put cs (off + j) (wds A) = put cs off (wds (Mv.upd us j A)) := by
    conv => lhs; rw [← e]
    exact put_wds_upd hj hl
  rw [this]
  exact Sub.put_in (by omega)
theorem Sub.setW {cs : List Value} {us : List Nat} {off j x : Nat} (h : Sub cs off us) (hj : j < us.length) (hl : off + us.length ≤ cs.length) : Sub (cs.set (off + j) (word x)) off (us.set j x) := by
  have e := put_self h hl
  have : cs.set (off + j) (word x) = put cs off (wds (us.set j x)) := by
    conv => lhs; rw [← e]
    exact set_wds_upd hj hl
  rw [this]
  exact Sub.put_in (by omega)
/-- A row is what it holds, where the words fill it. -/
theorem put_full {cs : List Value} {zl : List Nat} (h : zl.length = cs.length) : put cs 0 (wds zl) = wds zl := put_zero_all (by rw [wds_length]; exact h)

theorem addr_plus (g o i : Nat) : (⟨g, o, none⟩ : Addr).add i = ⟨g, o + i, none⟩ := by unfold Addr.add; split <;> simp_all
theorem word_one (x : Nat) : (word x).oneCell' = true := rfl
theorem wds_one {xs : List Nat} : ∀ v ∈ wds xs, v.oneCell' = true := by
  intro v hv
  simp only [wds, List.mem_map] at hv
  obtain ⟨x, _, rfl⟩ := hv
  rfl
/-- Copying a row of words (of nats or of words) to the place o of a block. -/
theorem run_copy_wds (w : World) (dT sT ty : TypeId) (hu : Tryz.prog.underlying dT = some (.slice 160)) (bz oz cz bx ox cx n : Nat) (T : TypeId) (cs : List Value) (xs : List Nat) (hA : Arr w bz T cs)
    (hx : ∀ i x, xs[i]? = some x → w.cell? ⟨bx, ox + i, none⟩ = some (word x)) (hl : oz + xs.length ≤ cs.length) (hn : n = xs.length) :
    (Builtin.copy_ #[dT, sT] ty #[.slice (some ⟨bz, oz, none⟩) n cz, .slice (some ⟨bx, ox, none⟩) n cx]).run Tryz.prog w = .ok (goInt xs.length) (w.setRow bz (put cs oz (wds xs)).toArray) := by
  subst hn
  have := run_copy_row (P := Tryz.prog) w dT sT ty 160 bz oz xs.length cz ⟨bx, ox, none⟩ xs.length cx cs.toArray T (wds xs) hu (by kernel_rfl) hA (by rw [wds_length]; simp)
    (fun j v hj => by
      simp only [wds, List.getElem?_map] at hj
      cases he : xs[j]? with
      | none => rw [he] at hj; cases hj
      | some x =>
        rw [he, Option.map_some] at hj
        rw [← Option.some.inj hj]
        rw [addr_plus]
        exact hx j x he) (by rw [wds_length]; simpa using hl) wds_one
  rw [wds_length] at this
  refine this.trans ?_
  simp only [put, wds_length]
theorem arr_setRow {w : World} {b : Nat} {T : TypeId} {cs : List Value} (h : Arr w b T cs) (ds : List Value) : Arr (w.setRow b ds.toArray) b T ds := setRow_heap w b cs.toArray ds.toArray T _ h
theorem grown_row (w : World) (b : Nat) (cs : Array Value) : w.grownBy (w.setRow b cs) (some b) :=
  ⟨rfl, rfl, rfl, by simp [World.setRow], fun k _ hk => setRow_other w b k cs (fun e => hk (by rw [e]))⟩
theorem size_setRow (w : World) (b : Nat) (cs : Array Value) : (w.setRow b cs).heap.size = w.heap.size := by simp [World.setRow]

theorem put_set_cons {cs vs : List Value} {off : Nat} {v : Value} (h : off + 1 + vs.length ≤ cs.length) : put (cs.set off v) (off + 1) vs = put cs off (v :: vs) := by
  apply List.ext_getElem?
  intro i
  by_cases h1 : i < off
  · rw [put_get_lo (by rw [List.length_set]; omega) (by omega), List.getElem?_set_ne (by omega), put_get_lo (by omega) h1]
  · by_cases h2 : i = off
    · subst h2
      have := put_get_in (cs := cs) (vs := v :: vs) (off := i) (i := 0) (by omega) (by simp)
      rw [Nat.add_zero] at this
      rw [put_get_lo (by rw [List.length_set]; omega) (by omega), List.getElem?_set_self (by omega), this]; rfl
    · by_cases h3 : i < off + 1 + vs.length
      · obtain ⟨t, rfl⟩ : ∃ t, i = off + 1 + t := ⟨i - off - 1, by omega⟩
        have := put_get_in (cs := cs) (vs := v :: vs) (off := off) (i := t + 1) (by omega) (by simp; omega)
        rw [show off + (t + 1) = off + 1 + t by omega] at this
        rw [put_get_in (by rw [List.length_set]; omega) (by omega), this]; rfl
      · rw [put_get_hi (by rw [List.length_set]; omega) (by omega), List.getElem?_set_ne (by omega), put_get_hi (by omega) (by simp; omega)]
theorem arr_setCells {b : Nat} {T : TypeId} : ∀ (vs : List Value) (o : Nat) (w : World) (cs : List Value), Arr w b T cs → o + vs.length ≤ cs.length →
    Arr (w.setCells b o vs) b T (put cs o vs) ∧ w.grownBy (w.setCells b o vs) (some b) ∧ (w.setCells b o vs).heap.size = w.heap.size
  | [], o, w, cs, h, _ => by rw [put_nil]; exact ⟨h, grownBy_refl _ _, rfl⟩
  | v :: r, o, w, cs, h, hl => by
    simp only [List.length_cons] at hl
    obtain ⟨h1, h2, h3⟩ := arr_setCells r (o + 1) (w.setCell ⟨b, o, none⟩ v) (cs.set o v) (h.set o v) (by rw [List.length_set]; omega)
    rw [put_set_cons (by omega)] at h1
    exact ⟨h1, grown_trans (grownBy_set _ _ _ _) h2, h3.trans (size_set _ _ _)⟩
/-- A part of a row of words set to zeros. -/
theorem run_clear_wds (w : World) (t ty : TypeId) (hu : Tryz.prog.underlying t = some (.slice 160)) (b o n c : Nat) (T : TypeId) (cs : List Value) (hA : Arr w b T cs) (hl : o + n ≤ cs.length) (hn : 0 < n) :
    (Builtin.clear_ #[t] ty #[.slice (some ⟨b, o, none⟩) n c]).run Tryz.prog w = .ok (.tuple #[]) (w.setCells b o (zs n)) :=
  Lib.run_clear_slice w t 160 ty (word 0) hu (fun w => by kernel_rfl) rfl rfl b o n c hn
    (fun j hj => by
      have := hA.cell (List.getElem?_eq_getElem (show o + j < cs.length by omega))
      rw [this]; rfl) (fun j _ => hA.free _)
end Go.Proofs.Tz
