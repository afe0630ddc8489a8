/- M1 A1 A2 A3 A4 in one text. -/
import Derived.Test.YtcehboopgjpfcaaGreatDoorPB
import Derived.Below
import Derived.Laws.OwnMore
import Derived.Deep.Draws
import Derived.WalkKit
import Derived.Test.YtcehboopgjpfcaaGreatDoorS1
import Derived.Laws.Externs
import Derived.Shelf.Lays7
import Derived.Shelf.Spec.BitsCarry
import Derived.Outline
import Derived.Deep.LoopGhost
import Derived.Lib.Hide
import Derived.Laws.MakeOwn
import Derived.BigQuiet
import Derived.Deep.QuietTactic
/- Words for arrays in memory: a block known whole, a part of it written; no program. -/
namespace Go.Proofs.Tz
open Go.RowKit Mv

/-- Block b holds just these cells, none frozen. -/
def Arr (w : World) (b : Nat) (T : TypeId) (cs : List Value) : Prop := w.heap[b]? = some (.cells cs.toArray T (0, 0))

def word (x : Nat) : Value := .int .u64 (x : Int)
def wds (xs : List Nat) : List Value := xs.map word
/-- The words xs stand in cs from off on. -/
def Sub (cs : List Value) (off : Nat) (xs : List Nat) : Prop := ∀ i x, xs[i]? = some x → cs[off + i]? = some (word x)
def put (cs : List Value) (off : Nat) (vs : List Value) : List Value := cs.take off ++ vs ++ cs.drop (off + vs.length)

theorem wds_length (xs : List Nat) : (wds xs).length = xs.length := by simp [wds]
theorem wds_append (xs ys : List Nat) : wds (xs ++ ys) = wds xs ++ wds ys := by simp [wds]
theorem wds_get {xs : List Nat} {i x : Nat} (h : xs[i]? = some x) : (wds xs)[i]? = some (word x) := by simp [wds, h]

theorem put_length {cs vs : List Value} {off : Nat} (h : off + vs.length ≤ cs.length) : (put cs off vs).length = cs.length := by
  simp [put]; omega
theorem put_nil {cs : List Value} {off : Nat} : put cs off [] = cs := by simp [put]
theorem put_get_in {cs vs : List Value} {off i : Nat} (h : off ≤ cs.length) (hi : i < vs.length) : (put cs off vs)[off + i]? = vs[i]? := by
  have h1 : (cs.take off).length = off := by simp; omega
  rw [put, List.append_assoc, List.getElem?_append_right (by omega), h1, List.getElem?_append_left (by omega)]
  congr 1; omega
theorem put_get_lo {cs vs : List Value} {off j : Nat} (h : off ≤ cs.length) (hj : j < off) : (put cs off vs)[j]? = cs[j]? := by
  have h1 : (cs.take off).length = off := by simp; omega
  rw [put, List.append_assoc, List.getElem?_append_left (by omega), List.getElem?_take_of_lt hj]
theorem put_get_hi {cs vs : List Value} {off j : Nat} (h : off ≤ cs.length) (hj : off + vs.length ≤ j) : (put cs off vs)[j]? = cs[j]? := by
  have h1 : (cs.take off).length = off := by simp; omega
  rw [put, List.getElem?_append_right (by simp; omega), List.getElem?_drop]
  congr 1
  simp; omega
theorem put_snoc {cs vs : List Value} {off : Nat} {v : Value} (h : off + vs.length < cs.length) : put cs off (vs ++ [v]) = (put cs off vs).set (off + vs.length) v := by
  apply List.ext_getElem?
  intro j
  by_cases h1 : j < off
  · rw [put_get_lo (by omega) h1, List.getElem?_set_ne (by omega), put_get_lo (by omega) h1]
  · by_cases h2 : j < off + vs.length
    · obtain ⟨i, rfl⟩ : ∃ i, j = off + i := ⟨j - off, by omega⟩
      rw [put_get_in (by omega) (by simp; omega), List.getElem?_set_ne (by omega), put_get_in (by omega) (by omega), List.getElem?_append_left (by omega)]
    · by_cases h3 : j = off + vs.length
      · subst h3
        rw [put_get_in (by omega) (by simp), List.getElem?_set_self (by rw [put_length (by omega)]; omega)]
        simp
      · rw [put_get_hi (by omega) (by simp; omega), List.getElem?_set_ne (by omega), put_get_hi (by omega) (by omega)]
/-- A part written again. -/
theorem put_put {cs vs us : List Value} {off : Nat} (hl : us.length = vs.length) (h : off + vs.length ≤ cs.length) : put (put cs off vs) off us = put cs off us := by
  apply List.ext_getElem?
  intro j
  have hp := put_length h
  by_cases h1 : j < off
  · rw [put_get_lo (by omega) h1, put_get_lo (by omega) h1, put_get_lo (by omega) h1]
  · by_cases h2 : j < off + us.length
    · obtain ⟨i, rfl⟩ : ∃ i, j = off + i := ⟨j - off, by omega⟩
      rw [put_get_in (by omega) (by omega), put_get_in (by omega) (by omega)]
    · rw [put_get_hi (by omega) (by omega), put_get_hi (by omega) (by omega), put_get_hi (by omega) (by omega)]
theorem put_zero_all {cs vs : List Value} (h : vs.length = cs.length) : put cs 0 vs = vs := by simp [put, h]
/-- Two parts, one behind the other. -/
theorem put_append {cs vs us : List Value} {off : Nat} (h : off + vs.length + us.length ≤ cs.length) : put (put cs off vs) (off + vs.length) us = put cs off (vs ++ us) := by
  apply List.ext_getElem?
  intro j
  have hp := put_length (cs := cs) (vs := vs) (off := off) (by omega)
  by_cases h1 : j < off
  · rw [put_get_lo (by omega) (by omega), put_get_lo (by omega) h1, put_get_lo (by omega) h1]
  · by_cases h2 : j < off + vs.length
    · obtain ⟨i, rfl⟩ : ∃ i, j = off + i := ⟨j - off, by omega⟩
      rw [put_get_lo (by omega) (by omega), put_get_in (by omega) (by omega), put_get_in (by omega) (by simp; omega), List.getElem?_append_left (by omega)]
    · by_cases h3 : j < off + vs.length + us.length
      · obtain ⟨i, rfl⟩ : ∃ i, j = off + vs.length + i := ⟨j - off - vs.length, by omega⟩
        rw [put_get_in (by omega) (by omega), show off + vs.length + i = off + (vs.length + i) by omega, put_get_in (by omega) (by simp; omega), List.getElem?_append_right (by omega)]
        congr 1; omega
      · rw [put_get_hi (by omega) (by omega), put_get_hi (by omega) (by omega), put_get_hi (by omega) (by simp; omega)]

theorem Sub.put_in {cs : List Value} {off : Nat} {xs : List Nat} (h : off ≤ cs.length) : Sub (put cs off (wds xs)) off xs := by
  intro i x hx
  have hi : i < xs.length := by
    by_cases c : i < xs.length
    · exact c
    · rw [List.getElem?_eq_none (by omega)] at hx; cases hx
  rw [put_get_in h (by rw [wds_length]; exact hi)]
  exact wds_get hx
theorem Sub.take {cs : List Value} {off : Nat} {xs : List Nat} (h : Sub cs off xs) (n : Nat) : Sub cs off (xs.take n) := fun i x hx => h i x (by
  rw [List.getElem?_take] at hx
  split at hx
  · exact hx
  · cases hx)
theorem Sub.drop {cs : List Value} {off : Nat} {xs : List Nat} (h : Sub cs off xs) (n : Nat) : Sub cs (off + n) (xs.drop n) := fun i x hx => by
  rw [List.getElem?_drop] at hx
  rw [Nat.add_assoc]; exact h _ x hx
theorem Sub.append {cs : List Value} {off : Nat} {xs ys : List Nat} (h : Sub cs off xs) (k : Sub cs (off + xs.length) ys) : Sub cs off (xs ++ ys) := fun i x hx => by
  by_cases c : i < xs.length
  · rw [List.getElem?_append_left c] at hx; exact h i x hx
  · rw [List.getElem?_append_right (by omega)] at hx
    have := k _ x hx
    rw [show off + xs.length + (i - xs.length) = off + i by omega] at this
    exact this
theorem Sub.lt {cs : List Value} {off : Nat} {xs : List Nat} (h : Sub cs off xs) (hn : 0 < xs.length) : off + xs.length ≤ cs.length := by
  have := h (xs.length - 1) _ (List.getElem?_eq_getElem (show xs.length - 1 < xs.length by omega))
  have := (List.getElem?_eq_some_iff.1 this).1
  omega
theorem put_self {cs : List Value} {off : Nat} {xs : List Nat} (h : Sub cs off xs) (hl : off + xs.length ≤ cs.length) : put cs off (wds xs) = cs := by
  apply List.ext_getElem?
  intro j
  by_cases h1 : j < off
  · rw [put_get_lo (by omega) h1]
  · by_cases h2 : j < off + xs.length
    · obtain ⟨i, rfl⟩ : ∃ i, j = off + i := ⟨j - off, by omega⟩
      have hi : i < xs.length := by omega
      rw [put_get_in (by omega) (by rw [wds_length]; exact hi), wds_get (List.getElem?_eq_getElem hi), h i _ (List.getElem?_eq_getElem hi)]
    · rw [put_get_hi (by omega) (by rw [wds_length]; omega)]

section
variable {w w' : World} {b : Nat} {T : TypeId} {cs : List Value}
theorem Arr.cell (h : Arr w b T cs) {j : Nat} {v : Value} (hj : cs[j]? = some v) : w.cell? ⟨b, j, none⟩ = some v := by
  unfold Arr at h
  simp [World.cell?, h, hj]
theorem Arr.get (h : Arr w b T cs) {j : Nat} (hj : j < cs.length) : ∃ v, w.cell? ⟨b, j, none⟩ = some v := ⟨_, h.cell (List.getElem?_eq_getElem hj)⟩
theorem Arr.free (h : Arr w b T cs) (j : Nat) : w.frozen? ⟨b, j, none⟩ = false := by
  unfold Arr at h
  simp [World.frozen?, h]
theorem Arr.set (h : Arr w b T cs) (j : Nat) (v : Value) : Arr (w.setCell ⟨b, j, none⟩ v) b T (cs.set j v) := by
  unfold Arr at *
  simp only [World.setCell, Array.getElem?_modify, h]
  simp
theorem Arr.lt (h : Arr w b T cs) : b < w.heap.size := (Array.getElem?_eq_some_iff.1 h).1
theorem Arr.other (h : Arr w b T cs) {row : Option Nat} (hg : w.grownBy w' row) (hne : some b ≠ row) : Arr w' b T cs := (hg.block b h.lt hne).trans h
theorem Arr.below (h : Arr w b T cs) (hb : Below w.heap.size w w') : Arr w' b T cs := (hb.block b h.lt).trans h
theorem Arr.alloc (h : Arr w b T cs) (o : Obj) : Arr (w.alloc o) b T cs := (Below.heap_alloc w o b h.lt).trans h
theorem Arr.drew (h : Arr w b T cs) : Arr w.drew b T cs := h
theorem Arr.drewN (h : Arr w b T cs) (n : Nat) : Arr (w.drewN n) b T cs := h
theorem Arr.setOther (h : Arr w b T cs) {a : Addr} (hne : b ≠ a.block) (v : Value) : Arr (w.setCell a v) b T cs := (Below.heap_setCell w a v b hne).trans h
theorem Arr.new (w : World) (T : TypeId) (cs : List Value) : Arr (w.alloc (.cells cs.toArray T)) w.heap.size T cs := heap_alloc_new w _
end
theorem grownBy_set (w : World) (b j : Nat) (v : Value) : w.grownBy (w.setCell ⟨b, j, none⟩ v) (some b) :=
  ⟨rfl, rfl, rfl, by simp [World.setCell], fun k _ hk => Below.heap_setCell _ _ _ _ (fun e => hk (by rw [e]))⟩
theorem grownBy_refl (w : World) (row : Option Nat) : w.grownBy w row := ⟨rfl, rfl, rfl, Nat.le_refl _, fun _ _ _ => rfl⟩
theorem grownBy_drew (w : World) (row : Option Nat) : w.grownBy w.drew row := ⟨rfl, rfl, rfl, Nat.le_refl _, fun _ _ _ => rfl⟩
theorem grownBy_drewN (w : World) (n : Nat) (row : Option Nat) : w.grownBy (w.drewN n) row := ⟨rfl, rfl, rfl, Nat.le_refl _, fun _ _ _ => rfl⟩
theorem grownBy_below {w w' : World} (h : Below w.heap.size w w') (row : Option Nat) : w.grownBy w' row := ⟨h.os, h.tape, h.output, h.size, fun i hi _ => h.block i hi⟩
theorem grown_trans {a b c : World} {row : Option Nat} (h : a.grownBy b row) (k : b.grownBy c row) : a.grownBy c row :=
  ⟨k.os.trans h.os, k.tape.trans h.tape, k.output.trans h.output, Nat.le_trans h.size k.size, fun i hi hne => (k.block i (Nat.lt_of_lt_of_le hi h.size) hne).trans (h.block i hi hne)⟩
/-- A store into a block that was not there. -/
theorem grown_set_new {w w' : World} {row : Option Nat} (h : w.grownBy w' row) {b : Nat} (hb : w.heap.size ≤ b) (j : Nat) (v : Value) : w.grownBy (w'.setCell ⟨b, j, none⟩ v) row :=
  ⟨h.os, h.tape, h.output, by simp [World.setCell]; exact h.size, fun k hk hne => (Below.heap_setCell _ _ _ _ (by simp; omega)).trans (h.block k hk hne)⟩
theorem size_set (w : World) (a : Addr) (v : Value) : (w.setCell a v).heap.size = w.heap.size := by simp [World.setCell]
end Go.Proofs.Tz

/- Contracts of the arithmetic of single words: Add, Sub, mulAddWWW_g, mulWW. -/
namespace Go.Proofs.Tz
open Go.RowKit Mv

theorem add64_call (x y c : Nat) (hc : c ≤ 1) (w : World) :
    (callFunc 246 #[.int .u64 x, .int .u64 y, .int .u64 c]).run Tryz.prog w = .ok (.value (.tuple #[.int .u64 (((x + y + c) % WB : Nat) : Int), .int .u64 (((x + y + c) / WB : Nat) : Int)])) w := by
  unfold WB
  rw [run_callFunc_extern Tryz.func246 (by kernel_rfl) (by kernel_rfl) (by kernel_rfl) (e := add64Entry) (by kernel_rfl), run_add64 x y c (by omega) (by omega) (by omega) (by omega)]
  simp only [Result.andThen]
  congr 5 <;> omega

theorem sub64_call (x y b : Nat) (hb : b ≤ 1) (w : World) :
    (callFunc 250 #[.int .u64 x, .int .u64 y, .int .u64 b]).run Tryz.prog w = .ok (.value (.tuple #[.int .u64 (((x + WB - y - b) % WB : Nat) : Int), .int .u64 ((if x < y + b then 1 else 0 : Nat) : Int)])) w := by
  unfold WB
  rw [run_callFunc_extern Tryz.func250 (by kernel_rfl) (by kernel_rfl) (by kernel_rfl) (e := sub64Entry) (by kernel_rfl), run_sub64 x y b hb]
  rfl

theorem ret_two {k1 k2 : IntKind} {a b c d : Int} (h1 : a = c) (h2 : b = d) : Ending.returned (.tuple #[.int k1 a, .int k2 b]) = .returned (.tuple #[.int k1 c, .int k2 d]) := by rw [h1, h2]
theorem ret_one {k : IntKind} {a b : Int} (h : a = b) : Ending.returned (.int k a) = .returned (.int k b) := by rw [h]

set_option maxHeartbeats 400000 in
theorem add_any (x y c : Nat) (hc : c ≤ 1) (w : World) :
    Calls Tryz.prog 234 #[.int .u64 x, .int .u64 y, .int .u64 c] w fun e w' => e = .returned (.tuple #[.int .u64 ((x + y + c) % WB : Nat), .int .u64 ((x + y + c) / WB : Nat)]) ∧ w = w' := by
  have hadd := add64_call x y c hc
  go_enter Tryz.func234, Tryz.ntmps234
  go_wp2
  go_ret2
  exact ⟨rfl, rfl⟩

set_option maxHeartbeats 400000 in
theorem sub_any (x y b : Nat) (hb : b ≤ 1) (w : World) :
    Calls Tryz.prog 239 #[.int .u64 x, .int .u64 y, .int .u64 b] w fun e w' => e = .returned (.tuple #[.int .u64 ((x + WB - y - b) % WB : Nat), .int .u64 ((if x < y + b then 1 else 0 : Nat) : Int)]) ∧ w = w' := by
  obtain ⟨r, hr⟩ : ∃ r : Nat, r = if x < y + b then 1 else 0 := ⟨_, rfl⟩
  have hsub : ∀ w : World, (callFunc 250 #[.int .u64 x, .int .u64 y, .int .u64 b]).run Tryz.prog w = .ok (.value (.tuple #[.int .u64 (((x + WB - y - b) % WB : Nat) : Int), .int .u64 (r : Int)])) w := by
    intro w; rw [hr]; exact sub64_call x y b hb w
  rw [← hr]
  clear hr
  go_enter Tryz.func239, Tryz.ntmps239
  go_wp2
  go_ret2
  exact ⟨rfl, rfl⟩

theorem mul_any (x y : Nat) (hx : x < WB) (hy : y < WB) (w : World) :
    Calls Tryz.prog 189 #[.int .u64 x, .int .u64 y] w fun e w' => e = .returned (.tuple #[.int .u64 ((x * y / WB : Nat) : Int), .int .u64 ((x * y % WB : Nat) : Int)]) ∧ w = w' :=
  (Tryz.bits_Mul x y hx hy w).mono fun _ _ ⟨h1, h2⟩ => ⟨h1, h2.symm⟩

theorem wrap_u64_nat (n : Nat) (h : n < WB) : IntKind.u64.wrap (n : Int) = n := by
  unfold WB at h
  simp only [IntKind.wrap, IntKind.signed, IntKind.bits, Bool.false_and, Bool.false_eq_true, if_false]
  omega

set_option maxHeartbeats 400000 in
theorem mulAddWWW_any (x y c : Nat) (hx : x < WB) (hy : y < WB) (hc : c < WB) (w : World) :
    Calls Tryz.prog 199 #[.int .u64 x, .int .u64 y, .int .u64 c] w fun e w' => e = .returned (.tuple #[.int .u64 ((x * y + c) / WB : Nat), .int .u64 ((x * y + c) % WB : Nat)]) ∧ w = w' := by
  have hB := WB_pos
  have hq : x * y / WB + (x * y % WB + c) / WB = (x * y + c) / WB := by
    have h := Nat.div_add_mod (x * y) WB
    rw [show x * y + c = WB * (x * y / WB) + (x * y % WB + c) by omega, Nat.mul_add_div hB]
  have hr : (x * y % WB + c) % WB = (x * y + c) % WB := by
    rw [Nat.add_mod, Nat.mod_mod, ← Nat.add_mod]
  have hw : IntKind.u64.wrap (((x * y / WB : Nat) : Int) + (((x * y % WB + c) / WB : Nat) : Int)) = ((x * y + c) / WB : Nat) := by
    rw [← Int.natCast_add, hq, wrap_u64_nat _ (mulAdd_carry hx hy hc)]
  go_enter Tryz.func199, Tryz.ntmps199
  go_wp2_with (first | (go_at_call 189; refine (mul_any _ _ hx hy _).mono ?_; rintro e w' ⟨rfl, rfl⟩) | (go_at_call 234; refine (add_any _ _ 0 (by omega) _).mono ?_; rintro e w' ⟨rfl, rfl⟩))
  go_ret2
  exact ⟨ret_two hw (by simp), rfl⟩

end Go.Proofs.Tz

/- Contract of mulAddVWW_g: a row of words times a word and a word more, in place or into another block. -/
namespace Go.Proofs.Tz
open Go.RowKit Mv

theorem mulAddL_get (y : Nat) (xs : List Nat) : ∀ (c k x : Nat), xs[k]? = some x → (mulAddL y c xs).1[k]? = some ((x * y + (mulAddL y c (xs.take k)).2) % WB) ∧ (mulAddL y c (xs.take (k + 1))).2 = (x * y + (mulAddL y c (xs.take k)).2) / WB := by
  induction xs with
  | nil => intro c k x h; simp at h
  | cons a r ih =>
    intro c k x h
    cases k with
    | zero =>
      simp only [List.getElem?_cons_zero, Option.some.injEq] at h
      subst h
      simp [mulAddL]
    | succ k =>
      simp only [List.getElem?_cons_succ] at h
      have := ih ((a * y + c) / WB) k x h
      rw [List.take_succ_cons, List.take_succ_cons, mulAddL_cons, mulAddL_cons, mulAddL_cons]
      simpa using this

/-- x's words are read in the block that is written, from the same place on, or elsewhere. -/
def Source (w : World) (bz oz bx ox : Nat) (xs : List Nat) : Prop :=
  (∀ i x, xs[i]? = some x → w.cell? ⟨bx, ox + i, none⟩ = some (word x)) ∧ (bx ≠ bz ∨ ox = oz) ∧ bx < w.heap.size

theorem Source.at_ {w wr : World} {bz oz bx ox : Nat} {xs ys : List Nat} {T : TypeId} {cs : List Value} (h : Source w bz oz bx ox xs) (hA : Arr w bz T cs) (hg : w.grownBy wr (some bz)) (hl : oz + xs.length ≤ cs.length)
    {k x : Nat} (hk : xs[k]? = some x) (hy : ys.length = k) (hW : Arr wr bz T (put cs oz (wds ys))) : wr.cell? ⟨bx, ox + k, none⟩ = some (word x) := by
  have hc := h.1 k x hk
  have hkl : k < xs.length := (List.getElem?_eq_some_iff.1 hk).1
  by_cases e : bx = bz
  · subst e
    have e2 : ox = oz := by rcases h.2.1 with h | h; exact absurd rfl h; exact h
    subst e2
    refine hW.cell ?_
    rw [put_get_hi (by omega) (by rw [wds_length]; omega)]
    unfold Arr at hA
    simpa [World.cell?, hA] using hc
  · refine (World.cell?_of_block (hg.block bx h.2.2 (by simpa using e))).trans hc

set_option maxHeartbeats 1000000 in
theorem mulAddVWW_g_any (bz oz cz bx ox cx : Nat) (xs : List Nat) (y r : Nat) (T : TypeId) (cs : List Value) (w : World) (hA : Arr w bz T cs) (hS : Source w bz oz bx ox xs) (hl : oz + xs.length ≤ cs.length)
    (hm : xs.length ≤ 1000000000) (hx : Ws xs) (hy : y < WB) (hr : r < WB) :
    Calls Tryz.prog 172 #[.slice (some ⟨bz, oz, none⟩) xs.length cz, .slice (some ⟨bx, ox, none⟩) xs.length cx, .int .u64 y, .int .u64 r] w fun e w' =>
      e = .returned (.int .u64 (mulAddL y r xs).2) ∧ Arr w' bz T (put cs oz (wds (mulAddL y r xs).1)) ∧ w.grownBy w' (some bz) ∧ w'.heap.size = w.heap.size := by
  have HA := Lib.hid hA
  have HS := Lib.hid hS
  have HX := Lib.hid hx
  clear hA hS hx
  have hg0 := Lib.hid (grownBy_refl w (some bz))
  go_enter Tryz.func172, Tryz.ntmps172
  go_wp2
  go_loopw [8, 19] (fun c i wr => ∃ k : Nat, k ≤ xs.length ∧ i = .int .i64 k ∧ c = .int .u64 ((mulAddL y r (xs.take k)).2 : Nat) ∧ Hid (Arr wr bz T (put cs oz (wds (mulAddL y r (xs.take k)).1))) ∧ Hid (w.grownBy wr (some bz)) ∧ Hid (wr.heap.size = w.heap.size)) (fun _ i _ => xs.length - (intOf i).toNat)
  case atStart =>
    refine ⟨0, Nat.zero_le _, rfl, rfl, ?_, hg0, Lib.hid rfl⟩
    have := HA.out
    rw [List.take_zero, show (mulAddL y r []).1 = [] from rfl, show wds [] = [] from rfl, put_nil]
    exact Lib.hid this
  case round =>
    obtain ⟨k, hk, rfl, rfl, HW, HG, HZ⟩ := hrel
    by_cases hlt : k < xs.length
    · obtain ⟨x, hxk⟩ : ∃ x, xs[k]? = some x := ⟨_, List.getElem?_eq_getElem hlt⟩
      have hyl : (mulAddL y r (xs.take k)).1.length = k := by rw [mulAddL_len]; simp; omega
      have hxB : x < WB := HX.out x (List.mem_of_getElem? hxk)
      have hcB : (mulAddL y r (xs.take k)).2 < WB := (mulAddL_ws hy (fun z hz => HX.out z (List.mem_of_mem_take hz)) r hr).2
      obtain ⟨c, hc⟩ : ∃ c, c = (mulAddL y r (xs.take k)).2 := ⟨_, rfl⟩
      have hcell := HS.out.at_ HA.out HG.out hl hxk hyl HW.out
      have hst := mulAddL_get y xs r k x hxk
      rw [← hc] at hst hcB ⊢
      have hnext : (mulAddL y r (xs.take (k + 1))).1 = (mulAddL y r (xs.take k)).1 ++ [(x * y + c) % WB] := by
        rw [List.take_succ_eq_append_getElem hlt, mulAddL_snoc]
        have : xs[k] = x := by rw [List.getElem?_eq_getElem hlt] at hxk; injection hxk
        rw [this, ← hc]
      have HN := Lib.hid hnext
      have HT := Lib.hid hst.2
      have HY := Lib.hid hyl
      have HC := Lib.hid hc
      clear hnext hst hyl hc hxk
      have hfz := HW.out.free (oz + k)
      have hcz : wr.cell? ⟨bz, oz + k, none⟩ = some ((put cs oz (wds (mulAddL y r (xs.take k)).1))[oz + k]'(by rw [put_length (by rw [wds_length, HY.out]; omega)]; omega)) := HW.out.cell (List.getElem?_eq_getElem _)
      go_wp2_with (go_at_call 199; refine (mulAddWWW_any _ _ _ hxB hy hcB _).mono ?_; rintro e w' ⟨rfl, rfl⟩)
      go_roundw
      case rel =>
        refine ⟨k + 1, by omega, by go_num, ?_, ?_, ?_, ?_⟩
        · rw [HT.out]; simp
        · have h1 := HW.out.set (oz + k) (word ((x * y + c) % WB))
          rw [HN.out, wds_append]
          show Arr _ bz T (put cs oz (wds (mulAddL y r (xs.take k)).1 ++ [word ((x * y + c) % WB)]))
          rw [put_snoc (by rw [wds_length, HY.out]; omega), wds_length, HY.out]
          exact Lib.hid h1
        · exact Lib.hid (grown_trans HG.out (grownBy_set _ _ _ _))
        · exact Lib.hid ((size_set _ _ _).trans HZ.out)
      case measure => simp [intOf]; omega
    · have e : k = xs.length := by omega
      subst e
      go_wp2
      go_ret
      have hW := HW.out
      rw [List.take_length] at hW ⊢
      exact ⟨rfl, hW, HG.out, HZ.out⟩
end Go.Proofs.Tz

/- Contracts of nat.make, norm, setWord, mulAddWW. -/
namespace Go.Proofs.Tz
open Go.RowKit Mv

def zs (k : Nat) : List Value := List.replicate k (word 0)
theorem zs_length (k : Nat) : (zs k).length = k := by simp [zs]
theorem zs_wds (k : Nat) : zs k = wds (List.replicate k 0) := by simp [zs, wds]
theorem made_zs (k : Nat) : madeCells #[.int .u64 0] k = (zs k).toArray := by
  apply Array.ext_getElem?
  intro i
  simp only [madeCells, zs, word]
  by_cases h : i < k
  · simp [h, Nat.mod_one]
  · rw [Array.getElem?_eq_none (by simp; omega), Array.getElem?_eq_none (by simp; omega)]

/-- A number's value in memory: nil, or the front of a block that it has for itself. -/
def NatAt (w : World) (base : Nat) (v : Value) (ws : List Nat) : Prop :=
  (v = .slice none 0 0 ∧ ws = []) ∨ ∃ b cap cs, v = .slice (some ⟨b, 0, none⟩) ws.length cap ∧ base ≤ b ∧ Arr w b 160 cs ∧ cs.length = cap ∧ ws.length ≤ cap ∧ Sub cs 0 ws

theorem NatAt.nil (w : World) (base : Nat) : NatAt w base (.slice none 0 0) [] := .inl ⟨rfl, rfl⟩
theorem NatAt.below {w w' : World} {base : Nat} {v : Value} {ws : List Nat} (h : NatAt w base v ws) (hb : Below w.heap.size w w') : NatAt w' base v ws := by
  rcases h with h | ⟨b, cap, cs, h1, h2, h3, h4⟩
  · exact .inl h
  · exact .inr ⟨b, cap, cs, h1, h2, h3.below hb, h4⟩
theorem NatAt.other {w w' : World} {base : Nat} {v : Value} {ws : List Nat} (h : NatAt w base v ws) {row : Option Nat} (hg : w.grownBy w' row) (hne : v.ownBlock = none ∨ v.ownBlock ≠ row) : NatAt w' base v ws := by
  rcases h with h | ⟨b, cap, cs, h1, h2, h3, h4⟩
  · exact .inl h
  · refine .inr ⟨b, cap, cs, h1, h2, h3.other hg ?_, h4⟩
    subst h1
    rcases hne with h | h
    · cases h
    · exact h
theorem NatAt.mono {w : World} {base base' : Nat} {v : Value} {ws : List Nat} (h : NatAt w base v ws) (hb : base' ≤ base) : NatAt w base' v ws := by
  rcases h with h | ⟨b, cap, cs, h1, h2, h3, h4⟩
  · exact .inl h
  · exact .inr ⟨b, cap, cs, h1, by omega, h3, h4⟩

theorem run_mk (n c : Nat) (hn : n ≤ c) (hc : c ≤ 1000000000) (w : World) : (Instr.makeSlice 118 (.int .i64 (n : Int)) (.int .i64 (c : Int))).run Tryz.prog w = .ok (.slice (some ⟨w.heap.size, 0, none⟩) n c) (w.alloc (.cells (zs c).toArray 160)) := by
  have hinfo : (Tryz.prog.info? 160).map (fun i => (i.zero, i.size, i.bytes)) = some (some (.int .u64 0), 1, 8) := by kernel_rfl
  obtain ⟨i, hi, hzz⟩ := Option.map_eq_some_iff.1 hinfo
  simp only [Prod.mk.injEq] at hzz
  obtain ⟨hz, hs, hb⟩ := hzz
  have hr := run_make (P := Tryz.prog) w 118 160 i (.int .u64 0) Tryz.underlying118 hi hz .i64 .i64 n c (by omega) (by omega) (by rw [hb]; omega) (by omega)
  simp only [Int.toNat_natCast, hs, Nat.mul_one] at hr
  rw [hr, ← made_zs]
  rfl

set_option maxHeartbeats 400000 in
/-- The block is large enough: the same one. -/
theorem make_fits (a : Option Addr) (l c n : Nat) (hn : n ≤ c) (_hc : c ≤ 1000000000) (w : World) :
    Calls Tryz.prog 149 #[.slice a l c, .int .i64 n] w fun e w' => e = .returned (.slice a n c) ∧ w = w' := by
  go_enter Tryz.func149, Tryz.ntmps149
  go_wp2
  go_ret
  exact ⟨rfl, rfl⟩

set_option maxHeartbeats 400000 in
/-- It is not: a new one. -/
theorem make_new (a : Option Addr) (l c n : Nat) (hn : c < n) (hb : n ≤ 100000000) (w : World) :
    Calls Tryz.prog 149 #[.slice a l c, .int .i64 n] w fun e w' => ∃ c', n ≤ c' ∧ c' ≤ n + 4 ∧ e = .returned (.slice (some ⟨w.heap.size, 0, none⟩) n c') ∧ Arr w' w.heap.size 160 (zs c') ∧ Below w.heap.size w w' := by
  by_cases h1 : n = 1
  · subst h1
    have hmk : ∀ w : World, (Instr.makeSlice 118 (.int .i64 1) (.int .i64 1)).run Tryz.prog w = .ok (.slice (some ⟨w.heap.size, 0, none⟩) 1 1) (w.alloc (.cells (zs 1).toArray 160)) := run_mk 1 1 (by omega) (by omega)
    go_enter Tryz.func149, Tryz.ntmps149
    go_wp2
    go_ret
    exact ⟨1, by omega, by omega, rfl, Arr.new _ _ _, (Below.refl _ _).alloc (Nat.le_refl _) _⟩
  · have hmk := run_mk n (n + 4) (by omega) (by omega)
    rw [show ((n + 4 : Nat) : Int) = (n : Int) + 4 by omega] at hmk
    have h1' : ((n : Int) == 1) = false := by simp; omega
    go_enter Tryz.func149, Tryz.ntmps149
    go_wp2
    go_ret
    exact ⟨n + 4, by omega, by omega, rfl, Arr.new _ _ _, (Below.refl _ _).alloc (Nat.le_refl _) _⟩

theorem normL_snoc_zero (xs : List Nat) : normL (xs ++ [0]) = normL xs := by
  induction xs with
  | nil => rfl
  | cons a r ih => rw [List.cons_append, normL_cons, normL_cons, ih]
theorem normL_snoc (xs : List Nat) {x : Nat} (h : x ≠ 0) : normL (xs ++ [x]) = xs ++ [x] := nrm_of_top h

set_option maxHeartbeats 1000000 in
theorem norm_any (b off cap : Nat) (xs : List Nat) (w : World) (hx : ∀ i x, xs[i]? = some x → w.cell? ⟨b, off + i, none⟩ = some (word x)) (hc : xs.length ≤ cap) (hm : xs.length ≤ 1000000000) :
    Calls Tryz.prog 161 #[.slice (some ⟨b, off, none⟩) xs.length cap] w fun e w' => e = .returned (.slice (some ⟨b, off, none⟩) (normL xs).length cap) ∧ w = w' := by
  have HX := Lib.hid hx
  clear hx
  go_enter Tryz.func161, Tryz.ntmps161
  go_wp2
  go_loop [3] (fun i => ∃ k : Nat, k ≤ xs.length ∧ i = .int .i64 k ∧ Hid (normL (xs.take k) = normL xs)) (fun i => (intOf i).toNat)
  case atStart => exact ⟨xs.length, Nat.le_refl _, rfl, Lib.hid (by rw [List.take_length])⟩
  case round =>
    obtain ⟨k, hk, rfl, HN⟩ := hrel
    cases k with
    | zero =>
      go_wp2
      go_ret
      have := HN.out
      rw [List.take_zero] at this
      exact ⟨by rw [← this]; rfl, rfl⟩
    | succ k =>
      obtain ⟨x, hxk⟩ : ∃ x, xs[k]? = some x := ⟨_, List.getElem?_eq_getElem (by omega)⟩
      have hcell : w.cell? ⟨b, off + k, none⟩ = some (.int .u64 (x : Int)) := HX.out k x hxk
      have ht : xs.take (k + 1) = xs.take k ++ [x] := by rw [List.take_add_one, hxk]; rfl
      have HT := Lib.hid ht
      have hlen : (xs.take k).length = k := by simp; omega
      have HL := Lib.hid hlen
      clear ht hxk hlen
      by_cases h0 : x = 0
      · have hb : ((x : Int) == 0) = true := by simp [h0]
        go_wp2
        go_round
        case rel => exact ⟨k, by omega, by go_num, Lib.hid (by rw [← HN.out, HT.out, h0, normL_snoc_zero])⟩
        case measure => simp [intOf]
      · have hb : ((x : Int) == 0) = false := by simp [h0]
        go_wp2
        go_ret
        exact ⟨by rw [← HN.out, HT.out, normL_snoc _ h0]; simp [HL.out], rfl⟩

theorem norm_nil (w : World) : Calls Tryz.prog 161 #[.slice none 0 0] w fun e w' => e = .returned (.slice none 0 0) ∧ w = w' := by
  go_enter Tryz.func161, Tryz.ntmps161
  go_wp2
  refine wp_loop_rounds 1 ?_
  rw [rounds_succ]
  go_wp2
  go_ret
  exact ⟨rfl, rfl⟩

def capOf : Value → Nat
  | .slice _ _ c => c
  | _ => 0

/-- What a number's operation leaves: its value; nothing else is written that was there but, perhaps, the block of the old one. -/
def Gave (w w' : World) (base : Nat) (v v' : Value) (ws : List Nat) (m : Nat) : Prop :=
  NatAt w' base v' ws ∧ w.grownBy w' v.ownBlock ∧ (v'.ownBlock = v.ownBlock ∨ ∃ b, v'.ownBlock = some b ∧ w.heap.size ≤ b) ∧ capOf v' ≤ max (capOf v) m

def GaveV (P : World → World → Value → Prop) (w : World) (e : Ending) (w' : World) : Prop := ∃ v', e = .returned v' ∧ P w w' v'

theorem NatAt.form {w : World} {base : Nat} {v : Value} {ws : List Nat} (h : NatAt w base v ws) : ∃ a c, v = .slice a ws.length c := by
  rcases h with ⟨rfl, rfl⟩ | ⟨b, cap, cs, rfl, _⟩
  · exact ⟨none, 0, rfl⟩
  · exact ⟨_, cap, rfl⟩

/-- Behind a new block: its front's words. -/
theorem NatAt.of_arr {w : World} {base b n : Nat} {cs : List Value} {ws : List Nat} (hA : Arr w b 160 cs) (hb : base ≤ b) (hs : Sub cs 0 ws) (hl : ws.length ≤ cs.length) (hn : n = ws.length) : NatAt w base (.slice (some ⟨b, 0, none⟩) n cs.length) ws :=
  .inr ⟨b, cs.length, cs, by rw [hn], hb, hA, rfl, hl, hs⟩

set_option maxHeartbeats 1000000 in
theorem setWord_zero (base : Nat) (v : Value) (ws : List Nat) (w : World) (hv : NatAt w base v ws) :
    Calls Tryz.prog 166 #[v, .int .u64 0] w (GaveV (fun w w' v' => Gave w w' base v v' [] 5) w) := by
  have HV := Lib.hid hv
  clear hv
  obtain ⟨a, c, rfl⟩ := HV.out.form
  go_enter Tryz.func166, Tryz.ntmps166
  go_wp2
  go_ret
  refine ⟨_, rfl, ?_, grownBy_refl _ _, .inl ?_, Nat.le_max_left _ _⟩
  · rcases HV.out with ⟨h1, h2⟩ | ⟨b, cap, cs, h1, h2, h3, h4, h5, h6⟩
    · injection h1 with h1 _ h3
      subst h1; subst h3
      exact NatAt.nil _ _
    · injection h1 with h1 _ h7
      subst h1; subst h7
      exact .inr ⟨b, c, cs, rfl, h2, h3, h4, by simp, fun i x hx => by simp at hx⟩
  · rcases HV.out with ⟨h1, h2⟩ | ⟨b, cap, cs, h1, _⟩
    · injection h1 with h1 _ _
      subst h1; rfl
    · injection h1 with h1 _ _
      subst h1; rfl

set_option maxHeartbeats 1000000 in
theorem setWord_pos (base : Nat) (v : Value) (ws : List Nat) (x : Nat) (hx : x ≠ 0) (w : World) (hv : NatAt w base v ws) (hbase : base ≤ w.heap.size) (hcap : capOf v ≤ 1000000000) :
    Calls Tryz.prog 166 #[v, .int .u64 x] w (GaveV (fun w w' v' => Gave w w' base v v' [x] 5) w) := by
  have HV := Lib.hid hv
  clear hv
  have hb : ((x : Int) == 0) = false := by simp [hx]
  clear hx
  have fresh : ∀ (a : Option Addr) (l c : Nat), v = .slice a l c → c < 1 → Calls Tryz.prog 166 #[v, .int .u64 x] w (GaveV (fun w w' v' => Gave w w' base v v' [x] 5) w) := by
    intro a l c hv hc
    subst hv
    go_enter Tryz.func166, Tryz.ntmps166
    go_wp2_with fail
    refine (make_new a l c 1 hc (by omega) _).mono ?_
    rintro e w1 ⟨c', h1, h2, rfl, hA, hB⟩
    have hfz := hA.free 0
    have hcell : w1.cell? ⟨w.heap.size, 0, none⟩ = some (word 0) := hA.cell (by simp [zs, List.getElem?_replicate]; omega)
    have HA := Lib.hid hA
    have HB := Lib.hid hB
    clear hA hB
    go_wp2_with fail
    go_ret
    refine ⟨_, rfl, ?_, ?_, .inr ⟨_, rfl, Nat.le_refl _⟩, Nat.le_trans h2 (Nat.le_max_right _ _)⟩
    · have := HA.out.set 0 (word x)
      have hl : ((zs c').set 0 (word x)).length = c' := by simp [zs]
      refine (show NatAt _ base (.slice (some ⟨w.heap.size, 0, none⟩) 1 c') [x] from ?_)
      rw [← hl]
      refine NatAt.of_arr this hbase ?_ (by rw [hl]; simpa using h1) rfl
      intro i y hy
      cases i with
      | zero => simp at hy; subst hy; rw [Nat.add_zero, List.getElem?_set_self (by rw [zs_length]; omega)]
      | succ i => simp at hy
    · exact grown_set_new (grownBy_below HB.out _) (Nat.le_refl _) _ _
  rcases HV.out with ⟨h1, h2⟩ | ⟨b, cap, cs, h1, h2, h3, h4, h5, h6⟩
  · exact fresh _ _ _ h1 (by omega)
  · by_cases hc : cap < 1
    · exact fresh _ _ _ h1 hc
    · have hcp : cap ≤ 1000000000 := by rw [h1] at hcap; exact hcap
      subst h1
      have hcs : 0 < cs.length := by omega
      have hfz := h3.free 0
      have hcell : w.cell? ⟨b, 0, none⟩ = some (cs[0]) := h3.cell (List.getElem?_eq_getElem hcs)
      have HA := Lib.hid h3
      have H4 := Lib.hid h4
      clear h3 fresh h6 hcap h4
      go_enter Tryz.func166, Tryz.ntmps166
      go_wp2_with fail
      refine (make_fits (some ⟨b, 0, none⟩) ws.length cap 1 (by omega) hcp _).mono ?_
      rintro e w1 ⟨rfl, rfl⟩
      go_wp2_with fail
      go_ret
      refine ⟨_, rfl, ?_, grownBy_set _ _ _ _, .inl rfl, Nat.le_max_left _ _⟩
      have := HA.out.set 0 (word x)
      have hl : (cs.set 0 (word x)).length = cap := by rw [List.length_set]; exact H4.out
      refine (show NatAt _ base (.slice (some ⟨b, 0, none⟩) 1 cap) [x] from ?_)
      rw [← hl]
      refine NatAt.of_arr this h2 ?_ (by rw [hl]; simp; omega) rfl
      intro i y hy
      cases i with
      | zero => simp at hy; subst hy; rw [Nat.add_zero, List.getElem?_set_self hcs]
      | succ i => simp at hy
end Go.Proofs.Tz

/- Contract of nat.mulAddWW. -/
namespace Go.Proofs.Tz
open Go.RowKit Mv

theorem mulAddVWW_any (bz oz cz bx ox cx : Nat) (xs : List Nat) (y r : Nat) (T : TypeId) (cs : List Value) (w : World) (hA : Arr w bz T cs) (hS : Source w bz oz bx ox xs) (hl : oz + xs.length ≤ cs.length)
    (hm : xs.length ≤ 1000000000) (hx : Ws xs) (hy : y < WB) (hr : r < WB) :
    Calls Tryz.prog 148 #[.slice (some ⟨bz, oz, none⟩) xs.length cz, .slice (some ⟨bx, ox, none⟩) xs.length cx, .int .u64 y, .int .u64 r] w fun e w' =>
      e = .returned (.int .u64 (mulAddL y r xs).2) ∧ Arr w' bz T (put cs oz (wds (mulAddL y r xs).1)) ∧ w.grownBy w' (some bz) ∧ w'.heap.size = w.heap.size := by
  have HA := Lib.hid hA
  have HS := Lib.hid hS
  have HX := Lib.hid hx
  clear hA hS hx
  go_enter Tryz.func148, Tryz.ntmps148
  go_wp2_with fail
  refine (mulAddVWW_g_any bz oz cz bx ox cx xs y r T cs w HA.out HS.out hl hm HX.out hy hr).mono ?_
  rintro e w' ⟨rfl, h1, h2, h3⟩
  go_wp2_with fail
  go_ret
  exact ⟨rfl, h1, h2, h3⟩

theorem source_same {w : World} {b : Nat} {T : TypeId} {cs : List Value} {ws : List Nat} (hA : Arr w b T cs) (hs : Sub cs 0 ws) : Source w b 0 b 0 ws :=
  ⟨fun i x hx => hA.cell (hs i x hx), .inr rfl, hA.lt⟩

set_option maxHeartbeats 2000000 in
theorem mulAddWW_any (base : Nat) (v : Value) (ws : List Nat) (y r : Nat) (w : World) (hv : NatAt w base v ws) (hbase : base ≤ w.heap.size) (hcap : capOf v ≤ 100000000) (hm : ws.length ≤ 10000000)
    (hx : Ws ws) (hy : y < WB) (hy0 : y ≠ 0) (hr : r < WB) :
    Calls Tryz.prog 158 #[v, v, .int .u64 y, .int .u64 r] w (GaveV (fun w w' v' => Gave w w' base v v' (mulAddN ws y r) (ws.length + 5)) w) := by
  have HV := Lib.hid hv
  have HX := Lib.hid hx
  clear hv hx
  have hyb : ((y : Int) == 0) = false := by simp [hy0]
  obtain ⟨out, ho⟩ : ∃ out, out = mulAddN ws y r := ⟨_, rfl⟩
  rw [← ho]
  have HO := Lib.hid ho
  have HY := Lib.hid hy0
  clear ho hy0
  by_cases h0 : ws = []
  · subst h0
    have hout : out = if r = 0 then [] else [r] := by rw [HO.out, mulAddN, if_pos (.inl rfl)]
    obtain ⟨a, c, hvf⟩ := HV.out.form
    subst hvf
    by_cases hr0 : r = 0
    · subst hr0
      rw [if_pos rfl] at hout
      subst hout
      go_enter Tryz.func158, Tryz.ntmps158
      go_wp2_with fail
      refine (setWord_zero base _ _ _ HV.out).mono ?_
      rintro e w' ⟨v', rfl, hg⟩
      go_wp2_with fail
      go_ret
      exact ⟨_, rfl, hg⟩
    · rw [if_neg hr0] at hout
      subst hout
      have HR := Lib.hid hr0
      clear hr0
      go_enter Tryz.func158, Tryz.ntmps158
      go_wp2_with fail
      refine (setWord_pos base _ _ r HR.out _ HV.out hbase (Nat.le_trans hcap (by omega))).mono ?_
      rintro e w' ⟨v', rfl, hg⟩
      go_wp2_with fail
      go_ret
      exact ⟨_, rfl, hg⟩
  · rcases HV.out with ⟨h1, h2⟩ | ⟨b, cap, cs, h1, h2, h3, h4, h5, h6⟩
    · exact absurd h2 h0
    · have hcp : cap ≤ 100000000 := by rw [h1] at hcap; exact hcap
      have hmb : ((ws.length : Int) == 0) = false := by simp; exact h0
      have hlen : 0 < ws.length := List.length_pos_iff.2 h0
      have hout : out = normL ((mulAddL y r ws).1 ++ [(mulAddL y r ws).2]) := by
        rw [HO.out, mulAddN, if_neg (by rintro (h | h); exact h0 h; exact HY.out h)]
      have hml := mulAddL_len y ws r
      have hcar := (mulAddL_ws hy HX.out r hr).2
      have HOO := Lib.hid hout
      have HML := Lib.hid hml
      have H3 := Lib.hid h3
      have H4 := Lib.hid h4
      have H6 := Lib.hid h6
      subst h1
      clear hcap hout hml h3 h4 h6 h0
      by_cases hc : ws.length + 1 ≤ cap
      · go_enter Tryz.func158, Tryz.ntmps158
        go_wp2_with fail
        refine (make_fits (some ⟨b, 0, none⟩) ws.length cap (ws.length + 1) hc (by omega) _).mono ?_
        rintro e w1 ⟨rfl, rfl⟩
        go_wp2_with fail
        have hll : 0 + ws.length ≤ cs.length := by rw [H4.out]; omega
        refine (mulAddVWW_any b 0 cap b 0 cap ws y r 160 cs _ H3.out (source_same H3.out H6.out) hll (by omega) HX.out hy hr).mono ?_
        rintro e w1 ⟨rfl, hA, hG, hZ⟩
        obtain ⟨cy, hcy⟩ : ∃ cy, cy = (mulAddL y r ws).2 := ⟨_, rfl⟩
        rw [← hcy]
        have hpl : (put cs 0 (wds (mulAddL y r ws).1)).length = cs.length := put_length (by rw [wds_length, HML.out]; omega)
        have hfz := hA.free ws.length
        obtain ⟨v0, hcell⟩ := hA.get (j := ws.length) (by rw [hpl, H4.out]; omega)
        have hset : (put cs 0 (wds (mulAddL y r ws).1)).set ws.length (word cy) = put cs 0 (wds ((mulAddL y r ws).1 ++ [cy])) := by
          rw [wds_append, show wds [cy] = [word cy] from rfl, put_snoc (by rw [wds_length, HML.out, H4.out]; omega), wds_length, HML.out, Nat.zero_add]
        have hA2 := hA.set ws.length (word cy)
        rw [hset] at hA2
        have HA2 := Lib.hid hA2
        have HG := Lib.hid hG
        have HZ := Lib.hid hZ
        have HPL := Lib.hid hpl
        have HC := Lib.hid hcy
        clear hA hA2 hset hG hZ hpl hcy
        go_wp2_with fail
        have hlw : ((mulAddL y r ws).1 ++ [cy]).length = ws.length + 1 := by simp [HML.out]
        have hsub : Sub (put cs 0 (wds ((mulAddL y r ws).1 ++ [cy]))) 0 ((mulAddL y r ws).1 ++ [cy]) := Sub.put_in (by omega)
        have hn := norm_any b 0 cap ((mulAddL y r ws).1 ++ [cy]) (w1.setCell ⟨b, ws.length, none⟩ (word cy)) (fun i x hix => HA2.out.cell (hsub i x hix)) (by rw [hlw]; exact hc) (by rw [hlw]; omega)
        rw [hlw] at hn
        refine hn.mono ?_
        rintro e w2 ⟨rfl, rfl⟩
        go_wp2_with fail
        go_ret
        refine ⟨_, rfl, ?_, grown_trans HG.out (grownBy_set _ _ _ _), .inl rfl, Nat.le_max_left _ _⟩
        have hlen2 : (put cs 0 (wds ((mulAddL y r ws).1 ++ [cy]))).length = cap := by rw [put_length (by rw [wds_length, hlw, H4.out]; omega), H4.out]
        refine (show NatAt _ base (.slice (some ⟨b, 0, none⟩) (normL ((mulAddL y r ws).1 ++ [cy])).length cap) out from ?_)
        rw [← hlen2, HOO.out, ← HC.out]
        obtain ⟨n, hn1, hn2, _⟩ := normL_take ((mulAddL y r ws).1 ++ [cy])
        refine NatAt.of_arr HA2.out h2 (by rw [hn2]; exact hsub.take n) ?_ rfl
        rw [hlen2, hn2]
        simp only [List.length_take]
        omega
      · have hbl := H3.out.lt
        go_enter Tryz.func158, Tryz.ntmps158
        go_wp2_with fail
        refine (make_new (some ⟨b, 0, none⟩) ws.length cap (ws.length + 1) (by omega) (by omega) _).mono ?_
        rintro e w1 ⟨c', hc1, hc2, rfl, hN, hB⟩
        have hS : Source w1 w.heap.size 0 b 0 ws := ⟨fun i x hx => (hB.cell (p := ⟨b, 0 + i, none⟩) hbl).trans (H3.out.cell (H6.out i x hx)), .inl (by omega), Nat.lt_of_lt_of_le hbl hB.size⟩
        have HS := Lib.hid hS
        have HN := Lib.hid hN
        have HB := Lib.hid hB
        clear hS hN hB
        go_wp2_with fail
        refine (mulAddVWW_any w.heap.size 0 c' b 0 cap ws y r 160 (zs c') _ HN.out HS.out (by rw [zs_length]; omega) (by omega) HX.out hy hr).mono ?_
        rintro e w2 ⟨rfl, hA, hG, hZ⟩
        obtain ⟨cy, hcy⟩ : ∃ cy, cy = (mulAddL y r ws).2 := ⟨_, rfl⟩
        rw [← hcy]
        have hpl : (put (zs c') 0 (wds (mulAddL y r ws).1)).length = c' := by rw [put_length (by rw [wds_length, HML.out, zs_length]; omega), zs_length]
        have hfz := hA.free ws.length
        obtain ⟨v0, hcell⟩ := hA.get (j := ws.length) (by rw [hpl]; omega)
        have hset : (put (zs c') 0 (wds (mulAddL y r ws).1)).set ws.length (word cy) = put (zs c') 0 (wds ((mulAddL y r ws).1 ++ [cy])) := by
          rw [wds_append, show wds [cy] = [word cy] from rfl, put_snoc (by rw [wds_length, HML.out, zs_length]; omega), wds_length, HML.out, Nat.zero_add]
        have hA2 := hA.set ws.length (word cy)
        rw [hset] at hA2
        have HA2 := Lib.hid hA2
        have HG := Lib.hid hG
        have HZ := Lib.hid hZ
        have HC := Lib.hid hcy
        clear hA hA2 hset hG hZ hpl hcy
        go_wp2_with fail
        have hlw : ((mulAddL y r ws).1 ++ [cy]).length = ws.length + 1 := by simp [HML.out]
        have hsub : Sub (put (zs c') 0 (wds ((mulAddL y r ws).1 ++ [cy]))) 0 ((mulAddL y r ws).1 ++ [cy]) := Sub.put_in (by omega)
        have hn := norm_any w.heap.size 0 c' ((mulAddL y r ws).1 ++ [cy]) (w2.setCell ⟨w.heap.size, ws.length, none⟩ (word cy)) (fun i x hix => HA2.out.cell (hsub i x hix)) (by rw [hlw]; exact hc1) (by rw [hlw]; omega)
        rw [hlw] at hn
        refine hn.mono ?_
        rintro e w3 ⟨rfl, rfl⟩
        go_wp2_with fail
        go_ret
        have hg2 : w.grownBy w2 (some b) := ⟨HG.out.os.trans HB.out.os, HG.out.tape.trans HB.out.tape, HG.out.output.trans HB.out.output, Nat.le_trans HB.out.size HG.out.size,
          fun k hk _ => (HG.out.block k (Nat.lt_of_lt_of_le hk HB.out.size) (by simp; omega)).trans (HB.out.block k hk)⟩
        refine ⟨_, rfl, ?_, grown_set_new hg2 (Nat.le_refl _) _ _, .inr ⟨_, rfl, Nat.le_refl _⟩, Nat.le_trans hc2 (Nat.le_trans (by omega) (Nat.le_max_right _ _))⟩
        have hlen2 : (put (zs c') 0 (wds ((mulAddL y r ws).1 ++ [cy]))).length = c' := by rw [put_length (by rw [wds_length, hlw, zs_length]; omega), zs_length]
        refine (show NatAt _ base (.slice (some ⟨w.heap.size, 0, none⟩) (normL ((mulAddL y r ws).1 ++ [cy])).length c') out from ?_)
        rw [HOO.out, ← HC.out]
        obtain ⟨n, hn1, hn2, _⟩ := normL_take ((mulAddL y r ws).1 ++ [cy])
        have := NatAt.of_arr (n := (normL ((mulAddL y r ws).1 ++ [cy])).length) HA2.out hbase (by rw [hn2]; exact hsub.take n) (by rw [hlen2, hn2]; simp only [List.length_take]; omega) rfl
        rwa [hlen2] at this
end Go.Proofs.Tz
