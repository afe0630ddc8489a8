/- The stack of words, growing, and schoolbook products and division. -/
import Derived.Test.YtcehboopgjpfcaaGreatDoorU1
import Derived.Test.YtcehboopgjpfcaaGreatDoorCA
import Derived.Test.YtcehboopgjpfcaaGreatDoorAA
import Derived.Lib.AppendZerosOnto
import Derived.Deep.RegionHeld3
import Derived.LaidEqlPtr
import Derived.Deep.CutRange
/- Contracts of the stack of temporaries: slices.Grow, nat, save, restore. -/
namespace Go.Proofs.Tz
open Go.RowKit Mv

theorem info160 : ∃ i, Tryz.prog.info? 160 = some i ∧ i.zero = some (.int .u64 0) ∧ i.size = 1 ∧ i.bytes = 8 := by
  have hinfo : (Tryz.prog.info? 160).map (fun i => (i.zero, i.size, i.bytes)) = some (some (.int .u64 0), 1, 8) := by kernel_rfl
  obtain ⟨i, hi, hzz⟩ := Option.map_eq_some_iff.1 hinfo
  simp only [Prod.mk.injEq] at hzz
  exact ⟨i, hi, hzz.1, hzz.2.1, hzz.2.2⟩
theorem zero_zs (k : Nat) : Builtin.zeroCells #[.int .u64 0] k = (zs k).toArray := by
  apply Array.ext_getElem?
  intro i
  simp only [Builtin.zeroCells, zs, word]
  by_cases h : i < k
  · simp [h, Nat.mod_one]
  · simp [h]

set_option maxHeartbeats 2000000 in
theorem grow_room (base : Option Addr) (l c n : Nat) (w : World) (hlc : l ≤ c) (hc63 : c ≤ 9223372036854775807) (hn63 : n ≤ 1000000) (hroom : l + n ≤ c) :
    Calls Tryz.prog 244 #[.slice base l c, .int .i64 n] w fun e w' => e = .returned (.slice base l c) ∧ w' = w := by
  have h1 : ¬ ((n : Int) < 0) := by omega
  have h2 : wrap64 ((c : Int) - (l : Int)) = (c : Int) - (l : Int) := by unfold wrap64; omega
  have h3 : wrap64 ((n : Int) - ((c : Int) - (l : Int))) = (n : Int) - ((c : Int) - (l : Int)) := by unfold wrap64; omega
  have h4 : ¬ ((n : Int) - ((c : Int) - (l : Int)) > 0) := by omega
  go_enter Tryz.func244, Tryz.ntmps244
  go_wp2
  go_ret
  exact ⟨rfl, rfl⟩

/-- What Grow leaves where there is no room. -/
def Grown (w : World) (l n c : Nat) (cs : List Value) (e : Ending) (w' : World) : Prop :=
  ∃ G L, l + n ≤ G ∧ G ≤ 9223372036854775807 ∧ L = cs ++ zs (l + n - c) ++ zs (G - (l + n)) ∧ e = .returned (.slice (some ⟨w.heap.size, 0, none⟩) l G) ∧ w' = w.drew.alloc (.cells L.toArray 160)

set_option maxHeartbeats 4000000 in
set_option maxRecDepth 100000 in
theorem grow_new (base : Option Addr) (l c n : Nat) (cs : List Value) (w : World) (hlc : l ≤ c) (hroom : c < l + n) (hbig : l + n ≤ 1000000)
    (hcl : cs.length = c) (hnil : base = none → c = 0) (hcs : ∀ a, base = some a → ∀ j v, cs[j]? = some v → w.cell? (a.add j) = some v) :
    Calls Tryz.prog 244 #[.slice base l c, .int .i64 n] w (Grown w l n c cs) := by
  obtain ⟨i0, hi0, hz0, hs0, hb0⟩ := info160
  have h1 : ¬ ((n : Int) < 0) := by omega
  have h2 : wrap64 ((c : Int) - (l : Int)) = (c : Int) - (l : Int) := by unfold wrap64; omega
  have h3 : wrap64 ((n : Int) - ((c : Int) - (l : Int))) = (n : Int) - ((c : Int) - (l : Int)) := by unfold wrap64; omega
  have h4 : (n : Int) - ((c : Int) - (l : Int)) > 0 := by omega
  have hck : c + (l + n - c) = l + n := by omega
  have hold : (Builtin.firstCells i0.size c (.slice base c c)).run Tryz.prog w.drew = .ok cs.toArray w.drew := by
    cases base with
    | none =>
      have h0 := hnil rfl
      subst h0
      have hc0 : cs = [] := List.length_eq_zero_iff.1 (by simpa using hcl)
      rw [hc0]
      exact run_firstCells_none w.drew i0.size 0 0 0
    | some a => exact run_firstCells_some w.drew i0.size c a c c cs (by rw [hs0, hcl, Nat.mul_one]) (fun j v hj => hcs a rfl j v hj)
  have hrz : ∀ ty, (Builtin.append_ #[117, 3] ty #[.slice base c c, .int .i64 ((n : Int) - ((c : Int) - (l : Int)))]).run Tryz.prog w =
      .ok (.slice (some ⟨w.heap.size, 0, none⟩) (l + n) (grownCap w (l + n) c 160)) (w.drew.alloc (.cells (cs ++ zs (l + n - c) ++ zs (grownCap w (l + n) c 160 - (l + n))).toArray 160)) := fun ty => by
    have h := Lib.run_append_grow_zeros w 117 3 ty 160 i0 (.int .u64 0) .i64 .i64 Tryz.underlying117 Tryz.underlying3 hi0 hz0 base c c cs hold (l + n - c) (by omega) (by omega) (by omega) (by omega)
      (by rw [hb0]; omega)
      (by rw [hck, hb0]; exact growslice_fits hroom (by omega))
    rw [hck] at h
    rw [show (n : Int) - ((c : Int) - (l : Int)) = ((l + n - c : Nat) : Int) by omega]
    rw [show (Value.int IntKind.u64 0).cells = #[.int .u64 0] from rfl, zero_zs, zero_zs] at h
    simpa using h
  have hGn : l + n ≤ grownCap w (l + n) c 160 := grownCap_ge w _ _ _
  obtain ⟨G, hG⟩ : ∃ G, G = grownCap w (l + n) c 160 := ⟨_, rfl⟩
  rw [← hG] at hrz hGn
  have hG63 : G ≤ 9223372036854775807 := by
    have := grownCap_le_maxLen w (l + n) c 160 (by unfold maxLen; omega)
    rw [← hG] at this
    unfold maxLen at this
    omega
  obtain ⟨L, hL⟩ : ∃ L, L = cs ++ zs (l + n - c) ++ zs (G - (l + n)) := ⟨_, rfl⟩
  rw [← hL] at hrz
  have HL := Lib.hid hL
  clear hold hck hG hcs hcl hL
  go_enter Tryz.func244, Tryz.ntmps244
  cases base with
  | none =>
    have h0 := hnil rfl
    subst h0
    obtain rfl : l = 0 := by omega
    go_wp2_with (at_builtin; refine Lib.wpList_append_run _ rfl _ _ _ _ rfl _ _ rfl rfl _ _ (hrz _) ?_)
    all_goals (go_ret; exact ⟨G, L, hGn, hG63, HL.out, rfl, rfl⟩)
  | some a =>
    obtain ⟨ab, ao, asp⟩ := a
    go_wp2_with (at_builtin; refine Lib.wpList_append_run _ rfl _ _ _ _ rfl _ _ rfl rfl _ _ (hrz _) ?_)
    all_goals (go_ret; exact ⟨G, L, hGn, hG63, HL.out, rfl, rfl⟩)
end Go.Proofs.Tz

/- Contracts of the stack of temporaries: nat, save, restore. -/
namespace Go.Proofs.Tz
open Go.RowKit Mv

/-- The inner stack si holds l words in the block bw. -/
structure SB (w : World) (si bw l c : Nat) (cs : List Value) : Prop where
  hdr : Arr w si 227 [.slice (some ⟨bw, 0, none⟩) l c]
  row : Arr w bw 160 cs
  len : cs.length = c
  fit : l ≤ c
  cap : c ≤ 9223372036854775807
theorem SB.only {w w' : World} {P : Nat → Prop} {si bw l c : Nat} {cs : List Value} (h : SB w si bw l c cs) (ho : Only P w w') (h1 : ¬ P si) (h2 : ¬ P bw) : SB w' si bw l c cs :=
  ⟨h.hdr.only ho h1, h.row.only ho h2, h.len, h.fit, h.cap⟩
theorem SB.ne {w : World} {si bw l c : Nat} {cs : List Value} (h : SB w si bw l c cs) : si ≠ bw := by
  intro e
  have h1 := h.hdr
  have h2 := h.row
  rw [e] at h1
  unfold Arr at h1 h2
  rw [h1] at h2
  injection h2 with h2
  injection h2 with _ h2
  exact absurd h2 (by decide)

theorem Only.set_new {P : Nat → Prop} {a w : World} (h : Only P a w) {b : Nat} (hb : a.heap.size ≤ b) (j : Nat) (v : Value) : Only P a (w.setCell ⟨b, j, none⟩ v) :=
  ⟨h.os, h.tape, h.output, by rw [size_set]; exact h.size, fun k hk hp => (Below.heap_setCell w ⟨b, j, none⟩ v k (fun e => by simp only at e; omega)).trans (h.block k hk hp)⟩
/-- What nat leaves: a new part behind the l words that are there. -/
def Gaves (w : World) (si bw l n nr : Nat) (cs : List Value) (e : Ending) (w' : World) : Prop :=
  ∃ bq c' cs', e = .returned (.slice (some ⟨bq, l, none⟩) n n) ∧ SB w' si bq (l + nr) c' cs' ∧ (bq = bw ∨ w.heap.size ≤ bq) ∧ (∀ i, i < l → cs'[i]? = cs[i]?) ∧ (bq ≠ bw → w'.heap[bw]? = w.heap[bw]?) ∧ Only (fun k => k = si ∨ k = bw) w w'

set_option maxHeartbeats 2000000 in
theorem sinat_room (si bw l c n nr : Nat) (cs : List Value) (w : World) (h : SB w si bw l c cs) (hn : 0 < n) (hnr : n ≤ nr) (hb : nr ≤ 1000) (hl : l ≤ 1000) (hround : bits BinOp.andNot IntKind.i64 ((n : Int) + 3) 3 = (nr : Int)) (hroom : l + nr ≤ c) :
    Calls Tryz.prog 230 #[.pointer (some ⟨si, 0, none⟩), .int .i64 n] w (Gaves w si bw l n nr cs) := by
  have hne := h.ne
  have c0 : w.cell? ⟨si, 0, none⟩ = some (.slice (some ⟨bw, 0, none⟩) l c) := h.hdr.cell rfl
  have f0 := h.hdr.free 0
  have hcap := h.cap
  obtain ⟨v0, cw⟩ := h.row.get (j := l) (by rw [h.len]; omega)
  have fw := h.row.free l
  have HG := Lib.hid (grow_room (some ⟨bw, 0, none⟩) l c nr w h.fit h.cap (by omega) hroom)
  have H := Lib.hid h
  clear h
  go_enter Tryz.func230, Tryz.ntmps230
  go_wp2_with fail
  (with_reducible refine HG.out.mono ?_)
  rintro e w' ⟨rfl, rfl⟩
  go_wp2_with fail
  go_ret
  show Gaves w' si bw l n nr cs (.returned (.slice (some ⟨bw, l, none⟩) (l + n - l) (l + n - l))) _
  rw [Nat.add_sub_cancel_left]
  refine ⟨bw, c, cs.set l (word 1043915), rfl, ⟨?_, ?_, by rw [List.length_set]; exact H.out.len, hroom, hcap⟩, .inl rfl, fun i hi => List.getElem?_set_ne (by omega), fun h => absurd rfl h, ?_⟩
  · exact ((H.out.hdr.set 0 _).set 0 _).setOther hne _
  · exact ((H.out.row.setOther (Ne.symm hne) _).setOther (Ne.symm hne) _).set l _
  · exact (((Only.refl _ _).set (.inl rfl) _ _).set (.inl rfl) _ _).set (.inr rfl) _ _

set_option maxHeartbeats 2000000 in
/-- No room, or nothing there yet: a new block. -/
theorem sinat_grow (base : Option Addr) (si l c n nr : Nat) (cs : List Value) (w : World) (hdr : Arr w si 227 [.slice base l c]) (hlc : l ≤ c) (hcl : cs.length = c) (hroom : c < l + nr)
    (hnil : base = none → c = 0) (hcs : ∀ a, base = some a → ∀ j v, cs[j]? = some v → w.cell? (a.add j) = some v)
    (hn : 0 < n) (hnr : n ≤ nr) (hb : nr ≤ 1000) (hl : l ≤ 1000) (hround : bits BinOp.andNot IntKind.i64 ((n : Int) + 3) 3 = (nr : Int)) :
    Calls Tryz.prog 230 #[.pointer (some ⟨si, 0, none⟩), .int .i64 n] w fun e w' =>
      ∃ G cs', e = .returned (.slice (some ⟨w.heap.size, l, none⟩) n n) ∧ SB w' si w.heap.size (l + nr) G cs' ∧ (∀ i, i < l → cs'[i]? = cs[i]?) ∧ Only (fun k => k = si) w w' := by
  have c0 : w.cell? ⟨si, 0, none⟩ = some (.slice base l c) := hdr.cell rfl
  have f0 := hdr.free 0
  have HG := Lib.hid (grow_new base l c nr cs w hlc hroom (by omega) hcl hnil hcs)
  have H := Lib.hid hdr
  clear hdr hnil hcs
  go_enter Tryz.func230, Tryz.ntmps230
  go_wp2_with fail
  (with_reducible refine HG.out.mono ?_)
  rintro e w1 ⟨G, L, g1, g2, hL, rfl, hw1⟩
  have hrow : Arr w1 w.heap.size 160 L := by rw [hw1]; exact Arr.new w.drew 160 L
  have hdr1 : Arr w1 si 227 [.slice base l c] := by rw [hw1]; exact (H.out.drew).alloc _
  have hLl : L.length = G := by rw [hL]; simp only [List.length_append, zs_length]; omega
  have hLc : ∀ i, i < l → (L.set l (word 1043915))[i]? = cs[i]? := fun i hi => by
    rw [List.getElem?_set_ne (by omega), hL, List.append_assoc, List.getElem?_append_left (by omega)]
  have hsi : si ≠ w.heap.size := Nat.ne_of_lt H.out.lt
  have ho : Only (fun k => k = si) w w1 := by rw [hw1]; exact (Only.refl _ _).trans ⟨rfl, rfl, rfl, by rw [size_alloc]; exact Nat.le_succ _, fun k hk _ => Below.heap_alloc w.drew _ k hk⟩
  obtain ⟨bq, hbq⟩ : ∃ bq, bq = w.heap.size := ⟨_, rfl⟩
  rw [← hbq] at hrow hsi ⊢
  have HB := Lib.hid hbq
  clear hw1 hL hbq
  have c1 : w1.cell? ⟨si, 0, none⟩ = some (.slice base l c) := hdr1.cell rfl
  have f1 := hdr1.free 0
  obtain ⟨v0, cw⟩ := hrow.get (j := l) (by rw [hLl]; omega)
  have fw := hrow.free l
  have H1 := Lib.hid hrow
  have H2 := Lib.hid hdr1
  have H3 := Lib.hid hLl
  have H4 := Lib.hid hLc
  have H5 := Lib.hid ho
  clear hrow hdr1 hLl hLc ho c0 f0 H
  go_wp2_with fail
  go_ret
  show ∃ G cs', Ending.returned (.slice (some ⟨bq, l, none⟩) (l + n - l) (l + n - l)) = .returned (.slice (some ⟨w.heap.size, l, none⟩) n n) ∧ SB _ si w.heap.size (l + nr) G cs' ∧ (∀ i, i < l → cs'[i]? = cs[i]?) ∧ Only (fun k => k = si) w _
  rw [← HB.out, Nat.add_sub_cancel_left]
  refine ⟨G, L.set l (word 1043915), rfl, ⟨?_, ?_, by rw [List.length_set]; exact H3.out, g1, g2⟩, H4.out, ?_⟩
  · exact ((H2.out.set 0 _).set 0 _).setOther hsi _
  · exact ((H1.out.setOther (Ne.symm hsi) _).setOther (Ne.symm hsi) _).set l _
  · have h := (H5.out.set (b := si) rfl 0 (.slice (some ⟨bq, 0, none⟩) l G)).set (b := si) rfl 0 (.slice (some ⟨bq, 0, none⟩) (l + nr) G)
    exact h.set_new (Nat.le_of_eq HB.out.symm) _ _

/-- The stack st lies over the inner stack si. -/
structure StkB (w : World) (st si bw l c : Nat) (cs : List Value) : Prop where
  ptr : Arr w st 194 [.pointer (some ⟨si, 0, none⟩)]
  inner : SB w si bw l c cs
/-- The stack is empty; none of its blocks is one of R. -/
def Stk0 (w : World) (st : Nat) (R : Nat → Prop) : Prop :=
  ¬ R st ∧ (Arr w st 194 [.pointer none] ∨ ∃ si bw c cs, ¬ R si ∧ ¬ R bw ∧ StkB w st si bw 0 c cs)
theorem StkB.only {P : Nat → Prop} {w w' : World} {st si bw l c : Nat} {cs : List Value} (h : StkB w st si bw l c cs) (ho : Only P w w') (h1 : ¬ P st) (h2 : ¬ P si) (h3 : ¬ P bw) : StkB w' st si bw l c cs :=
  ⟨h.ptr.only ho h1, h.inner.only ho h2 h3⟩
theorem Stk0.only {P R : Nat → Prop} {w w' : World} {st : Nat} (h : Stk0 w st R) (ho : Only P w w') (hp : ∀ k, P k → R k) : Stk0 w' st R := by
  obtain ⟨h1, h2⟩ := h
  refine ⟨h1, ?_⟩
  rcases h2 with h2 | ⟨si, bw, c, cs, g1, g2, g3⟩
  · exact .inl (h2.only ho fun e => h1 (hp _ e))
  · exact .inr ⟨si, bw, c, cs, g1, g2, g3.only ho (fun e => h1 (hp _ e)) (fun e => g1 (hp _ e)) (fun e => g2 (hp _ e))⟩
theorem Stk0.mono {R Q : Nat → Prop} {w : World} {st : Nat} (h : Stk0 w st R) (hq : ∀ k, k < w.heap.size → Q k → R k) : Stk0 w st Q := by
  obtain ⟨h1, h2⟩ := h
  rcases h2 with h2 | ⟨si, bw, c, cs, g1, g2, g3⟩
  · exact ⟨fun e => h1 (hq _ h2.lt e), .inl h2⟩
  · exact ⟨fun e => h1 (hq _ g3.ptr.lt e), .inr ⟨si, bw, c, cs, fun e => g1 (hq _ g3.inner.hdr.lt e), fun e => g2 (hq _ g3.inner.row.lt e), g3⟩⟩
theorem Stk0.below {R : Nat → Prop} {w w' : World} {st : Nat} (h : Stk0 w st R) (hb : Below w.heap.size w w') : Stk0 w' st R := by
  obtain ⟨h1, h2⟩ := h
  refine ⟨h1, ?_⟩
  rcases h2 with h2 | ⟨si, bw, c, cs, g1, g2, g3⟩
  · exact .inl (h2.below hb)
  · exact .inr ⟨si, bw, c, cs, g1, g2, g3.ptr.below hb, g3.inner.hdr.below hb, g3.inner.row.below hb, g3.inner.len, g3.inner.fit, g3.inner.cap⟩

theorem sinat_any (si bw l c n nr : Nat) (cs : List Value) (w : World) (h : SB w si bw l c cs) (hn : 0 < n) (hnr : n ≤ nr) (hb : nr ≤ 1000) (hl : l ≤ 1000) (hround : bits BinOp.andNot IntKind.i64 ((n : Int) + 3) 3 = (nr : Int)) :
    Calls Tryz.prog 230 #[.pointer (some ⟨si, 0, none⟩), .int .i64 n] w (Gaves w si bw l n nr cs) := by
  by_cases hroom : l + nr ≤ c
  · exact sinat_room si bw l c n nr cs w h hn hnr hb hl hround hroom
  · have hcs : ∀ a, some (⟨bw, 0, none⟩ : Addr) = some a → ∀ j v, cs[j]? = some v → w.cell? (a.add j) = some v := by
      intro a ha j v hj
      injection ha with ha
      rw [← ha, addr_plus, Nat.zero_add]
      exact h.row.cell hj
    refine (sinat_grow (some ⟨bw, 0, none⟩) si l c n nr cs w h.hdr h.fit h.len (by omega) (fun e => by cases e) hcs hn hnr hb hl hround).mono ?_
    rintro e w' ⟨G, cs', rfl, g1, g2, g3⟩
    exact ⟨w.heap.size, G, cs', rfl, g1, .inr (Nat.le_refl _), g2, fun _ => g3.block bw h.row.lt (fun e => h.ne e.symm), g3.mono fun k hk => .inl hk⟩

theorem StkB.ne {w : World} {st si bw l c : Nat} {cs : List Value} (h : StkB w st si bw l c cs) : st ≠ si ∧ st ≠ bw := by
  constructor
  · intro e
    have h1 := h.ptr
    have h2 := h.inner.hdr
    rw [e] at h1
    unfold Arr at h1 h2
    rw [h1] at h2
    injection h2 with h2
    injection h2 with _ h2
    exact absurd h2 (by decide)
  · intro e
    have h1 := h.ptr
    have h2 := h.inner.row
    rw [e] at h1
    unfold Arr at h1 h2
    rw [h1] at h2
    injection h2 with h2
    injection h2 with _ h2
    exact absurd h2 (by decide)

set_option maxHeartbeats 2000000 in
/-- A part behind l words. -/
theorem nat_more (st si bw l c n nr : Nat) (cs : List Value) (w : World) (h : StkB w st si bw l c cs) (hn : 0 < n) (hnr : n ≤ nr) (hb : nr ≤ 1000) (hl : l ≤ 1000) (hround : bits BinOp.andNot IntKind.i64 ((n : Int) + 3) 3 = (nr : Int)) :
    Calls Tryz.prog 193 #[.pointer (some ⟨st, 0, none⟩), .int .i64 n] w (fun e w' => Gaves w si bw l n nr cs e w' ∧ Arr w' st 194 [.pointer (some ⟨si, 0, none⟩)]) := by
  have c0 : w.cell? ⟨st, 0, none⟩ = some (.pointer (some ⟨si, 0, none⟩)) := h.ptr.cell rfl
  have HC := Lib.hid (sinat_any si bw l c n nr cs w h.inner hn hnr hb hl hround)
  have HP := Lib.hid (And.intro h.ptr h.ne)
  clear h
  go_enter Tryz.func193, Tryz.ntmps193
  go_wp2_with fail
  (with_reducible refine HC.out.mono ?_)
  rintro e w1 ⟨bq, c', cs', rfl, h1, h2, h3, h4, h5⟩
  have hp := HP.out.1.only h5 (fun e => e.elim HP.out.2.1 HP.out.2.2)
  go_wp2_with fail
  go_ret
  exact ⟨⟨bq, c', cs', rfl, h1, h2, h3, h4, h5⟩, hp⟩

set_option maxHeartbeats 2000000 in
/-- The first part that is taken. -/
theorem nat_zero (R : Nat → Prop) (st n nr : Nat) (w : World) (h : Stk0 w st R) (hR : ∀ k, R k → k < w.heap.size) (hn : 4 < n) (hnr : n ≤ nr) (hb : nr ≤ 1000) (hround : bits BinOp.andNot IntKind.i64 ((n : Int) + 3) 3 = (nr : Int)) :
    Calls Tryz.prog 193 #[.pointer (some ⟨st, 0, none⟩), .int .i64 n] w fun e w' =>
      ∃ si bq c cs, e = .returned (.slice (some ⟨bq, 0, none⟩) n n) ∧ ¬ R si ∧ ¬ R bq ∧ StkB w' st si bq nr c cs ∧ Only (fun k => ¬ R k) w w' := by
  obtain ⟨h1, h2⟩ := h
  rcases h2 with h2 | ⟨si, bw, c, cs, g1, g2, g3⟩
  · have c0 : w.cell? ⟨st, 0, none⟩ = some (.pointer none) := h2.cell rfl
    obtain ⟨w1, hw1⟩ : ∃ w1, w.alloc (.cells #[.slice none 0 0] 227) = w1 := ⟨_, rfl⟩
    have a1 : Arr w1 st 194 [.pointer none] := by rw [← hw1]; exact h2.alloc _
    have a2 : Arr w1 w.heap.size 227 [.slice none 0 0] := by rw [← hw1]; exact Arr.new w 227 [.slice none 0 0]
    have a3 : Only (fun k => ¬ R k) w w1 := by rw [← hw1]; exact (Only.refl _ _).trans ⟨rfl, rfl, rfl, by rw [size_alloc]; exact Nat.le_succ _, fun k hk _ => Below.heap_alloc w _ k hk⟩
    have hst := h2.lt
    obtain ⟨si, hsi⟩ : ∃ si, w.heap.size = si := ⟨_, rfl⟩
    have d0 : w1.cell? ⟨st, 0, none⟩ = some (.pointer none) := a1.cell rfl
    have f1 := a1.free 0
    rw [hsi] at a2
    obtain ⟨w2, hw2⟩ : ∃ w2, w1.setCell ⟨st, 0, none⟩ (.pointer (some ⟨si, 0, none⟩)) = w2 := ⟨_, rfl⟩
    have hne : st ≠ si := by omega
    have e1 : Arr w2 st 194 [.pointer (some ⟨si, 0, none⟩)] := by rw [← hw2]; exact a1.set 0 _
    have e2 : Arr w2 si 227 [.slice none 0 0] := by rw [← hw2]; exact a2.setOther (Ne.symm hne) _
    have e3 : Only (fun k => ¬ R k) w w2 := by rw [← hw2]; exact a3.set h1 _ _
    have hc := sinat_grow none si 0 0 n nr [] w2 e2 (Nat.le_refl _) rfl (by omega) (fun _ => rfl) (fun a e => by cases e) (by omega) hnr hb (by omega) hround
    have hRs : ∀ k, w.heap.size ≤ k → ¬ R k := fun k hk hr => by have := hR k hr; omega
    have HC := Lib.hid hc
    have HR := Lib.hid hRs
    have HE := Lib.hid (And.intro e1 (And.intro e3 (And.intro hne (show w.heap.size ≤ si by omega))))
    clear h2 hR a1 a2 a3 e1 e2 e3 hc hRs hst
    go_enter Tryz.func193, Tryz.ntmps193
    go_wp2_with fail
    (with_reducible refine HC.out.mono ?_)
    rintro e w3 ⟨G, cs', rfl, k1, k2, k3⟩
    obtain ⟨m1, m2, m3, m4⟩ := HE.out
    have n1 := m1.only k3 m3
    have n2 := m2.trans (k3.mono (Q := fun k => ¬ R k) fun k hk => by subst hk; exact HR.out _ m4)
    have n3 := HR.out w2.heap.size m2.size
    have n4 := HR.out si m4
    rw [Nat.zero_add] at k1
    have N := Lib.hid (And.intro n1 (And.intro n2 (And.intro n3 (And.intro n4 k1))))
    clear n1 n2 n3 n4 k1 k2 k3 m1 m2 m3 m4 hw1 hw2 hsi
    go_wp2_with fail
    go_ret
    exact ⟨si, w2.heap.size, G, cs', rfl, N.out.2.2.2.1, N.out.2.2.1, ⟨N.out.1, N.out.2.2.2.2⟩, N.out.2.1⟩
  · refine (nat_more st si bw 0 c n nr cs w g3 (by omega) hnr hb (by omega) hround).mono ?_
    rintro e w' ⟨⟨bq, c', cs', rfl, k1, k2, k3, k4, k5⟩, k6⟩
    rw [Nat.zero_add] at k1
    have hq : ¬ R bq := by
      rcases k2 with rfl | k2
      · exact g2
      · exact fun hr => by have := hR _ hr; omega
    exact ⟨si, bq, c', cs', rfl, g1, hq, ⟨k6, k1⟩, k5.mono fun k hk => by rcases hk with rfl | rfl; exact g1; exact g2⟩

set_option maxHeartbeats 1000000 in
theorem save_none (st : Nat) (w : World) (h : Arr w st 194 [.pointer none]) : Calls Tryz.prog 192 #[.pointer (some ⟨st, 0, none⟩)] w fun e w' => e = .returned (.int .i64 0) ∧ w = w' := by
  have c0 : w.cell? ⟨st, 0, none⟩ = some (.pointer none) := h.cell rfl
  clear h
  go_enter Tryz.func192, Tryz.ntmps192
  go_wp2_with fail
  go_ret
  exact ⟨rfl, rfl⟩
set_option maxHeartbeats 1000000 in
theorem save_some (st si bw l c : Nat) (cs : List Value) (w : World) (h : StkB w st si bw l c cs) : Calls Tryz.prog 192 #[.pointer (some ⟨st, 0, none⟩)] w fun e w' => e = .returned (.int .i64 (l : Int)) ∧ w = w' := by
  have c0 : w.cell? ⟨st, 0, none⟩ = some (.pointer (some ⟨si, 0, none⟩)) := h.ptr.cell rfl
  have c1 : w.cell? ⟨si, 0, none⟩ = some (.slice (some ⟨bw, 0, none⟩) l c) := h.inner.hdr.cell rfl
  clear h
  go_enter Tryz.func192, Tryz.ntmps192
  go_wp2
  go_ret
  exact ⟨rfl, rfl⟩
set_option maxHeartbeats 1000000 in
theorem sirestore (si bw l c n : Nat) (cs : List Value) (w : World) (h : SB w si bw l c cs) (hn : n ≤ c) (_hb : n ≤ 1000000) :
    Calls Tryz.prog 227 #[.pointer (some ⟨si, 0, none⟩), .int .i64 n] w fun e w' => e = .returned (.tuple #[]) ∧ SB w' si bw n c cs ∧ w.grownBy w' (some si) ∧ w'.heap.size = w.heap.size := by
  have c1 : w.cell? ⟨si, 0, none⟩ = some (.slice (some ⟨bw, 0, none⟩) l c) := h.hdr.cell rfl
  have f1 := h.hdr.free 0
  have hcap := h.cap
  have hne := h.ne
  have H := Lib.hid h
  clear h
  go_enter Tryz.func227, Tryz.ntmps227
  go_wp2_with fail
  go_end0
  exact ⟨rfl, ⟨H.out.hdr.set 0 _, H.out.row.setOther (Ne.symm hne) _, H.out.len, hn, hcap⟩, grownBy_set _ _ _ _, size_set _ _ _⟩
set_option maxHeartbeats 1000000 in
/-- restore, as a deferred call. -/
theorem restore_d (st si bw l c n : Nat) (cs : List Value) (u : FrameMode) (w : World) (h : StkB w st si bw l c cs) (hn : n ≤ c) (hb : n ≤ 1000000) :
    CallsD Tryz.prog 191 #[.pointer (some ⟨st, 0, none⟩), .int .i64 n] u w fun e u' w' => u' = u ∧ (e = .returned (.tuple #[]) ∧ StkB w' st si bw n c cs ∧ w.grownBy w' (some si) ∧ w'.heap.size = w.heap.size) := by
  have c0 : w.cell? ⟨st, 0, none⟩ = some (.pointer (some ⟨si, 0, none⟩)) := h.ptr.cell rfl
  have hne : some st ≠ some si := fun e => by
    have h1 := h.ptr
    have h2 := h.inner.hdr
    injection e with e
    rw [e] at h1
    unfold Arr at h1 h2
    rw [h1] at h2
    injection h2 with h2
    injection h2 with _ h2
    exact absurd h2 (by decide)
  have HC := Lib.hid (sirestore si bw l c n cs w h.inner hn hb)
  have H := Lib.hid h.ptr
  clear h
  go_enter_d Tryz.func191, Tryz.ntmps191
  go_wp2_with fail
  (with_reducible refine HC.out.mono ?_)
  rintro e w1 ⟨rfl, h1, h2, h3⟩
  have h4 := H.out.other h2 hne
  go_wp2_with fail
  go_end0
  exact ⟨rfl, ⟨h4, h1⟩, h2, h3⟩
end Go.Proofs.Tz

/- Plain laws of basicSqr: the products of unlike words, row by row; no Go. -/
namespace Go.Proofs.Mv
theorem val_take_succ {xs : List Nat} {k d : Nat} (h : xs[k]? = some d) : val (xs.take (k + 1)) = val (xs.take k) + WB ^ k * d := by
  obtain ⟨hk, he⟩ := List.getElem?_eq_some_iff.1 h
  rw [List.take_succ_eq_append_getElem hk, he, val_append, val_cons, val_nil, List.length_take, Nat.min_eq_left (by omega), Nat.mul_zero, Nat.add_zero]
theorem val_zeros (n : Nat) : val (List.replicate n 0) = 0 := by
  induction n with
  | zero => rfl
  | succ n ih => rw [List.replicate_succ, val_cons, ih, Nat.mul_zero]
theorem ws_zeros (n : Nat) : Ws (List.replicate n 0) := fun x hx => by rw [List.eq_of_mem_replicate hx]; exact WB_pos
theorem Ws.set {zl : List Nat} (h : Ws zl) {i x : Nat} (hx : x < WB) : Ws (zl.set i x) := fun y hy => by
  rcases List.mem_or_eq_of_mem_set hy with hm | rfl
  · exact h y hm
  · exact hx
/-- The rows of unlike products so far: those of the first k words. -/
structure TInv (xs t : List Nat) (k : Nat) : Prop where
  len : t.length = 2 * xs.length
  ws : Ws t
  sum : val t = crs (xs.take k)
  fst : t[0]? = some 0
  zero : ∀ i, 2 * k - 1 ≤ i → i < t.length → t[i]? = some 0
theorem TInv.start {xs : List Nat} (h : 0 < xs.length) : TInv xs (List.replicate (2 * xs.length) 0) 1 := by
  refine ⟨by simp, ws_zeros _, ?_, by rw [List.getElem?_replicate, if_pos (by omega)], fun i _ hi => by rw [List.length_replicate] at hi; rw [List.getElem?_replicate, if_pos hi]⟩
  obtain ⟨x, r, rfl⟩ : ∃ x r, xs = x :: r := by
    cases xs with
    | nil => simp at h
    | cons x r => exact ⟨x, r, rfl⟩
  rw [val_zeros]
  simp [crs, val_nil]
theorem TInv.next {xs t : List Nat} {k d : Nat} (h : TInv xs t k) (hk : xs[k]? = some d) (h1 : 1 ≤ k) (hx : Ws xs) {A : List Nat × Nat} (hA : A = addMulL d ((t.drop k).take k) (xs.take k)) :
    A.1.length = k ∧ Ws A.1 ∧ A.2 < WB ∧ TInv xs ((upd t k A.1).set (k + k) A.2) (k + 1) := by
  obtain ⟨hkl, he⟩ := List.getElem?_eq_some_iff.1 hk
  have hl := h.len
  have htl : (xs.take k).length = k := by rw [List.length_take]; omega
  have hsl : ((t.drop k).take k).length = k := by rw [List.length_take, List.length_drop]; omega
  have hal : A.1.length = k := by rw [hA, addMulL_len d (by omega), hsl]
  have haw : Ws A.1 := by rw [hA]; exact addMulL_ws _ _ _
  have hd := hx d (List.mem_of_getElem? hk)
  have hac : A.2 < WB := by rw [hA]; exact addMulL_carry hd ((h.ws.drop k).take k) (hx.take k)
  have hst := mul_step (zs := t) (xs := xs.take k) (i := k) (d := d) (by omega) (h.zero _ (by omega) (by omega))
  rw [htl, ← hA] at hst
  refine ⟨hal, haw, hac, ?_, ?_, ?_, ?_, ?_⟩
  · rw [List.length_set, upd_len (by omega)]; exact hl
  · exact (h.ws.upd haw k).set hac
  · rw [hst, h.sum, List.take_succ_eq_append_getElem hkl, he, crs_snoc, htl]
  · rw [List.getElem?_set_ne (by omega), upd_get_lo (by omega) (by omega)]; exact h.fst
  · intro i g1 g2
    rw [List.length_set, upd_len (by omega)] at g2
    rw [List.getElem?_set_ne (by omega), upd_get_hi (by omega) (by omega)]
    exact h.zero i (by omega) g2
theorem val_sq_lt {xs : List Nat} (hx : Ws xs) : val xs * val xs < WB ^ (2 * xs.length) := by
  have h := val_lt hx
  rw [Nat.two_mul, Nat.pow_add]
  exact Nat.lt_of_le_of_lt (Nat.mul_le_mul_left _ (Nat.le_of_lt h)) (Nat.mul_lt_mul_of_pos_right h (Nat.pow_pos WB_pos))
/-- The last steps: twice the rows, and the squares. -/
theorem sq_done {xs t : List Nat} (h : TInv xs t xs.length) (hx : Ws xs) (h2 : 2 ≤ xs.length) {S R : List Nat × Nat} {T : List Nat} (hS : S = shlL 0 ((t.drop 1).take (2 * xs.length - 2))) (hT : T = (upd t 1 S.1).set (2 * xs.length - 1) S.2) (hR : R = addL (sqs xs) T) :
    S.1.length = 2 * xs.length - 2 ∧ T.length = 2 * xs.length ∧ Ws T ∧ R.1.length = 2 * xs.length ∧ Ws R.1 ∧ val R.1 = val xs * val xs := by
  have hl := h.len
  have hsl : ((t.drop 1).take (2 * xs.length - 2)).length = 2 * xs.length - 2 := by rw [List.length_take, List.length_drop]; omega
  have hS1 : S.1.length = 2 * xs.length - 2 := by rw [hS, shlL_len, hsl]
  have hSw : Ws S.1 := by rw [hS]; exact shlL_ws _ _
  have hv : val S.1 + WB ^ (2 * xs.length - 2) * S.2 = 2 * val ((t.drop 1).take (2 * xs.length - 2)) + 0 := by
    have := shlL_val 0 ((t.drop 1).take (2 * xs.length - 2))
    rw [← hS, hsl] at this; exact this
  have hSc : S.2 < WB := by
    have h1 := val_lt ((h.ws.drop 1).take (2 * xs.length - 2))
    rw [hsl] at h1
    rcases Nat.lt_or_ge S.2 2 with g | g
    · unfold WB; omega
    · have := Nat.mul_le_mul_left (WB ^ (2 * xs.length - 2)) g
      omega
  have htw := twice_row (t := t) (k := 2 * xs.length - 2) (by omega) h.fst (h.zero _ (by omega) (by omega))
  rw [← hS, show 2 * xs.length - 2 + 1 = 2 * xs.length - 1 by omega, ← hT, h.sum, List.take_length] at htw
  have hTl : T.length = 2 * xs.length := by rw [hT, List.length_set, upd_len (by omega)]; exact hl
  have hTw : Ws T := by rw [hT]; exact (h.ws.upd hSw 1).set hSc
  have hsq := val_sqs xs
  have hal := addL_val (xs := sqs xs) (ys := T) (by rw [sqs_len, hTl])
  rw [← hR, sqs_len, htw, hsq] at hal
  have hlt := val_sq_lt hx
  have hc : R.2 = 0 := by
    rcases Nat.eq_zero_or_pos R.2 with g | g
    · exact g
    · have := Nat.mul_le_mul_left (WB ^ (2 * xs.length)) g
      omega
  rw [hc, Nat.mul_zero, Nat.add_zero] at hal
  exact ⟨hS1, hTl, hTw, by rw [hR, addL_len (by rw [sqs_len, hTl]), sqs_len], by rw [hR]; exact addL_ws _ _, hal⟩

/-! ### The numbers in the table -/
theorem len_of_bounds {ws : List Nat} {k : Nat} (hw : Ws ws) (hn : Nrm ws) (h1 : WB ^ k ≤ val ws) (h2 : val ws < WB ^ (k + 1)) : ws.length = k + 1 := by
  have hne : ws ≠ [] := by
    intro e
    rw [e, val_nil] at h1
    have : 0 < WB ^ k := Nat.pow_pos WB_pos
    omega
  have a := val_pos_of_nrm hn hne
  have b := val_lt hw
  have hp : 0 < ws.length := List.length_pos_iff.2 hne
  have c1 : k < ws.length := (Nat.pow_lt_pow_iff_right (show 1 < WB by unfold WB; omega)).1 (Nat.lt_of_le_of_lt h1 b)
  have c2 : ws.length - 1 < k + 1 := (Nat.pow_lt_pow_iff_right (show 1 < WB by unfold WB; omega)).1 (Nat.lt_of_le_of_lt a h2)
  omega
theorem top_word {ws : List Nat} {n : Nat} (hw : Ws ws) (hl : ws.length = n + 1) : ws[n]? = some (val ws / WB ^ n) := by
  obtain ⟨x, hx⟩ : ∃ x, ws[n]? = some x := ⟨_, List.getElem?_eq_getElem (by omega)⟩
  have h1 := val_split ws (j := n) (by omega)
  have h2 := val_lt (hw.take n)
  rw [List.length_take, Nat.min_eq_left (by omega)] at h2
  rw [val_drop hx, List.drop_eq_nil_of_le (by omega), val_nil, Nat.mul_zero, Nat.add_zero] at h1
  rw [hx, h1, Nat.add_mul_div_left _ _ (Nat.pow_pos WB_pos), Nat.div_eq_of_lt h2, Nat.zero_add]
/-- How many words the divisors have. -/
def nw : Nat → Nat
  | 0 => 8
  | 1 => 16
  | _ => 32
theorem nw_bounds : ∀ e, e < 3 → WB ^ (nw e - 1) ≤ 10 ^ nd e ∧ 10 ^ nd e < WB ^ (nw e - 1 + 1)
  | 0, _ => by decide +kernel
  | 1, _ => by decide +kernel
  | 2, _ => by decide +kernel
theorem nw_pos : ∀ e, e < 3 → 8 ≤ nw e
  | 0, _ => by decide
  | 1, _ => by decide
  | 2, _ => by decide
theorem nw_len {ws : List Nat} {e : Nat} (he : e < 3) (hw : Ws ws) (hn : Nrm ws) (hv : val ws = 10 ^ nd e) : ws.length = nw e := by
  obtain ⟨h1, h2⟩ := nw_bounds e he
  rw [← hv] at h1 h2
  have hp := nw_pos e he
  have := len_of_bounds (k := nw e - 1) hw hn h1 h2
  clear h1 h2 hv
  omega
end Go.Proofs.Mv

/- Contracts of basicMul. -/
namespace Go.Proofs.Mv
/-- The rows of a product so far. -/
structure MInv (xs ys zl : List Nat) (n k : Nat) : Prop where
  len : zl.length = n + ys.length
  ws : Ws zl
  sum : val zl = val (ys.take k) * val xs
  zero : ∀ i, n + k ≤ i → i < zl.length → zl[i]? = some 0
theorem MInv.start (xs ys : List Nat) (n : Nat) : MInv xs ys (List.replicate (n + ys.length) 0) n 0 :=
  ⟨by simp, fun x hx => by rw [List.eq_of_mem_replicate hx]; exact WB_pos, by rw [val_zeros, List.take_zero, val_nil, Nat.zero_mul], fun i _ hi => by rw [List.length_replicate] at hi; rw [List.getElem?_replicate, if_pos hi]⟩
theorem MInv.skip {xs ys zl : List Nat} {n k : Nat} (h : MInv xs ys zl n k) (hk : ys[k]? = some 0) : MInv xs ys zl n (k + 1) :=
  ⟨h.len, h.ws, by rw [val_take_succ hk, Nat.mul_zero, Nat.add_zero]; exact h.sum, fun i h1 h2 => h.zero i (by omega) h2⟩
theorem MInv.next {xs ys zl : List Nat} {n k d : Nat} (h : MInv xs ys zl n k) (hn : xs.length = n) (hk : ys[k]? = some d) (hx : Ws xs) (hy : Ws ys) :
    MInv xs ys ((upd zl k (addMulL d ((zl.drop k).take n) xs).1).set (n + k) (addMulL d ((zl.drop k).take n) xs).2) n (k + 1) := by
  obtain ⟨hkl, _⟩ := List.getElem?_eq_some_iff.1 hk
  have hl := h.len
  have hdl : ((zl.drop k).take n).length = n := by rw [List.length_take, List.length_drop]; omega
  have hal : (addMulL d ((zl.drop k).take n) xs).1.length = n := by rw [addMulL_len d (by omega), hdl]
  have hd := hy d (List.mem_of_getElem? hk)
  have hst := mul_step (zs := zl) (xs := xs) (i := k) (d := d) (by omega) (h.zero (k + xs.length) (by omega) (by omega))
  rw [hn] at hst
  rw [Nat.add_comm n k]
  refine ⟨by rw [List.length_set, upd_len (by omega)]; exact hl, ?_, ?_, ?_⟩
  · intro x hx'
    rcases List.mem_or_eq_of_mem_set hx' with hm | rfl
    · exact h.ws.upd (addMulL_ws _ _ _) k x hm
    · exact addMulL_carry hd ((h.ws.drop k).take n) hx
  · rw [hst, h.sum, val_take_succ hk, Nat.add_mul, Nat.mul_assoc]
  · intro i h1 h2
    rw [List.length_set, upd_len (by omega)] at h2
    rw [List.getElem?_set_ne (by omega), upd_get_hi (by omega) (by omega)]
    exact h.zero i (by omega) h2
end Go.Proofs.Mv
namespace Go.Proofs.Tz
open Go.RowKit Mv

set_option maxHeartbeats 4000000 in
set_option maxRecDepth 100000 in
theorem basicMul_any (bz cz bx cx n : Nat) (xs : List Nat) (cs : List Value) (w : World) (hA : Arr w bz 160 cs) (hX : ∀ i x, xs[i]? = some x → w.cell? ⟨bx, i, none⟩ = some (word x)) (hne : bx ≠ bz)
    (hn : xs.length = n) (h0 : 0 < n) (hl : n + n ≤ cs.length) (hc : n + n ≤ cz) (hm : n ≤ 100000) (hx : Ws xs) :
    Calls Tryz.prog 169 #[.slice (some ⟨bz, 0, none⟩) ((n + n : Nat) : Int).toNat cz, .slice (some ⟨bx, 0, none⟩) n cx, .slice (some ⟨bx, 0, none⟩) n cx] w fun e w' =>
      e = .returned (.tuple #[]) ∧ (∃ ps, Arr w' bz 160 (put cs 0 (wds ps)) ∧ ps.length = n + n ∧ Ws ps ∧ val ps = val xs * val xs) ∧ w.grownBy w' (some bz) ∧ w'.heap.size = w.heap.size := by
  rw [Int.toNat_natCast]
  have hcl : ∀ ty, (Builtin.clear_ #[118] ty #[.slice (some ⟨bz, 0, none⟩) (n + n) cz]).run Tryz.prog w = .ok (.tuple #[]) (w.setCells bz 0 (zs (n + n))) := fun ty => run_clear_wds w 118 ty Tryz.underlying118 bz 0 (n + n) cz 160 cs hA (by omega) (by omega)
  obtain ⟨a1, a2, a3⟩ := arr_setCells (zs (n + n)) 0 w cs hA (by rw [zs_length]; omega)
  obtain ⟨w0, hw0⟩ : ∃ w0, w.setCells bz 0 (zs (n + n)) = w0 := ⟨_, rfl⟩
  rw [hw0] at a1 a2 a3 hcl
  rw [zs_wds] at a1
  have hX0 : ∀ wr : World, w0.grownBy wr (some bz) → ∀ i x, xs[i]? = some x → wr.cell? ⟨bx, i, none⟩ = some (word x) := fun wr hg i x h => by
    have hcx := hX i x h
    have hg2 := grown_trans a2 hg
    exact (World.cell?_of_block (hg2.block bx (World.block_lt_of_cell? w _ hcx) (by simpa using hne))).trans hcx
  have hMs := MInv.start xs xs n
  rw [hn] at hMs
  have A1 := Lib.hid a1
  have A2 := Lib.hid a2
  have A3 := Lib.hid a3
  have HX := Lib.hid hX0
  have HWX := Lib.hid hx
  have HN := Lib.hid hn
  have HM := Lib.hid hMs
  clear hA hX hw0 a1 a2 a3 hX0 hx hn hMs
  go_enter Tryz.func169, Tryz.ntmps169
  go_wp2_with fail
  go_loopw [6, 7, 17] (fun a6 a7 i wr => ∃ (v6 v7 : Value) (k : Nat) (zl : List Nat), v6 = a6 ∧ v7 = a7 ∧ k ≤ n ∧ i = .int .i64 (k : Int) ∧ Hid (Arr wr bz 160 (put cs 0 (wds zl))) ∧ Hid (MInv xs xs zl n k) ∧ Hid (w0.grownBy wr (some bz)) ∧ Hid (wr.heap.size = w0.heap.size)) (fun _ _ i _ => n - (intOf i).toNat)
  case atStart => exact ⟨_, _, 0, _, rfl, rfl, Nat.zero_le _, rfl, A1, HM, Lib.hid (grownBy_refl _ _), Lib.hid rfl⟩
  case round =>
    obtain ⟨v6, v7, k, zl, rfl, rfl, hk, rfl, H1, H2, H3, H4⟩ := hrel
    by_cases hlt : k < n
    · obtain ⟨d, hd⟩ : ∃ d, xs[k]? = some d := ⟨_, List.getElem?_eq_getElem (by have := HN.out; omega)⟩
      have hcd := HX.out wr H3.out k d hd
      have hcd2 : wr.cell? ⟨bx, k, none⟩ = some (.int .u64 (d : Int)) := hcd
      by_cases h0 : d = 0
      · subst h0
        have HS := Lib.hid (H2.out.skip hd)
        clear hd hcd
        go_wp2_with fail
        go_roundw
        case rel => exact ⟨_, _, k + 1, zl, rfl, rfl, by omega, by go_num, H1, HS, H3, H4⟩
        case measure => simp [intOf]; omega
      · have hd0 : ((d : Int) == 0) = false := by simp only [beq_eq_false_iff_ne, ne_eq]; omega
        have hln := H2.out.len
        rw [HN.out] at hln
        have hz0 : zl[n + k]? = some 0 := H2.out.zero _ (Nat.le_refl _) (by omega)
        have hlz : (put cs 0 (wds zl)).length = cs.length := put_length (by rw [wds_length]; omega)
        have c0 : wr.cell? ⟨bz, n + k, none⟩ = some (.int .u64 0) := H1.out.cell (by
          have := put_get_in (cs := cs) (vs := wds zl) (off := 0) (i := n + k) (by omega) (by rw [wds_length]; omega)
          rw [Nat.zero_add] at this
          rw [this]; exact wds_get hz0)
        have f0 := H1.out.free (n + k)
        have hsl : ((zl.drop k).take n).length = n := by rw [List.length_take, List.length_drop]; omega
        have hsub : Sub (put cs 0 (wds zl)) k ((zl.drop k).take n) := by
          have := ((Sub.put_in (cs := cs) (off := 0) (xs := zl) (by omega)).drop k).take n
          rwa [Nat.zero_add] at this
        have hc := addMulVVWW_any bz k (cz - k) (cz - k) bx 0 cx ((zl.drop k).take n) xs d 160 (put cs 0 (wds zl)) wr.drew H1.out.drew hsub (fun i y hy => by rw [Nat.zero_add]; exact HX.out wr H3.out i y hy) hne (by rw [hsl, HN.out]) (by rw [hsl, hlz]; omega) (by rw [hsl]; omega) ((H2.out.ws.drop k).take n) HWX.out (HWX.out d (List.mem_of_getElem? hd))
        have hnx := H2.out.next HN.out hd HWX.out HWX.out
        obtain ⟨A, hA⟩ : ∃ A, A = addMulL d ((zl.drop k).take n) xs := ⟨_, rfl⟩
        rw [← hA] at hc hnx
        rw [hsl] at hc
        have hAl : A.1.length = n := by rw [hA, addMulL_len d (by rw [hsl, HN.out]), hsl]
        have hpu : put (put cs 0 (wds zl)) k (wds A.1) = put cs 0 (wds (upd zl k A.1)) := by
          have := put_wds_upd (cs := cs) (zl := zl) (A := A.1) (off := 0) (j := k) (by omega) (by omega)
          rwa [Nat.zero_add] at this
        rw [hpu] at hc
        have hul : (upd zl k A.1).length = n + n := by rw [upd_len (by omega), hln]
        have hst : (put cs 0 (wds (upd zl k A.1))).set (n + k) (word A.2) = put cs 0 (wds ((upd zl k A.1).set (n + k) A.2)) := by
          have := set_wds_upd (cs := cs) (zl := upd zl k A.1) (off := 0) (j := n + k) (x := A.2) (by omega) (by omega)
          rwa [Nat.zero_add] at this
        have hg0 : (upd zl k A.1)[n + k]? = some 0 := by rw [upd_get_hi (by omega) (by omega)]; exact hz0
        have hcz : (put cs 0 (wds (upd zl k A.1)))[n + k]? = some (.int .u64 0) := by
          have := put_get_in (cs := cs) (vs := wds (upd zl k A.1)) (off := 0) (i := n + k) (by omega) (by rw [wds_length]; omega)
          rw [Nat.zero_add] at this
          rw [this]; exact wds_get hg0
        obtain ⟨U, hU⟩ : ∃ U, U = put cs 0 (wds (upd zl k A.1)) := ⟨_, rfl⟩
        rw [← hU] at hc hst hcz
        have HC := Lib.hid hc
        have HNX := Lib.hid hnx
        have HST := Lib.hid hst
        have HCZ := Lib.hid hcz
        have i1 : (0 : Int) ≤ (n : Int) + (k : Int) := by omega
        have i2 : (n : Int) + (k : Int) < (n : Int) + (n : Int) := by omega
        have i3 : IntKind.i64.wrap ((n : Int) + (k : Int)) = (n : Int) + (k : Int) := by rw [IntKind.wrap_i64]; omega
        have i4 : IntKind.i64.wrap ((k : Int) + (n : Int)) = (k : Int) + (n : Int) := by rw [IntKind.wrap_i64]; omega
        have i5 : (0 : Int) ≤ (k : Int) := by omega
        have i6 : (k : Int) + (n : Int) ≤ (cz : Int) := by omega
        have i7 : (k : Int) ≤ (k : Int) + (n : Int) := by omega
        have i8 : ((k : Int) + (n : Int)).toNat - k = n := by omega
        have i9 : ¬ cz = k := by omega
        have i10 : ((n : Int) + (k : Int)).toNat = n + k := by omega
        clear hcd hd hc hnx hst hcz hU hA hpu hul hg0 hAl hsl hsub hlz hz0 hln
        go_wp2_with fail
        go_region_held3 (fun _ => True) (first | trivial)
          (first
            | (go_at_call 190; refine HC.out.mono ?_; rintro e w1 ⟨rfl, q1, q2, q3⟩; have c1 : w1.cell? ⟨bz, n + k, none⟩ = some (.int .u64 0) := q1.cell HCZ.out; have f1 : w1.frozen? ⟨bz, n + k, none⟩ = false := q1.free _)
            | fail)
        have r1 := q1.set (n + k) (word A.2)
        rw [HST.out] at r1
        have R1 := Lib.hid r1
        have R2 := Lib.hid q2
        have R3 := Lib.hid q3
        clear r1 q1 q2 q3
        go_wp2_with fail
        go_roundw
        case rel =>
          refine ⟨_, _, k + 1, _, rfl, rfl, by omega, by go_num, R1, HNX, ?_, ?_⟩
          · exact Lib.hid (grown_trans (grown_trans H3.out (grown_trans (grownBy_drew _ _) R2.out)) (grownBy_set _ _ _ _))
          · exact Lib.hid ((size_set _ _ _).trans (R3.out.trans H4.out))
        case measure => simp [intOf]; omega
    · obtain rfl : k = n := by omega
      go_wp2_with fail
      go_end0
      have hl2 := H2.out.len
      have hs2 := H2.out.sum
      rw [List.take_of_length_le (by have := HN.out; omega)] at hs2
      exact ⟨rfl, ⟨zl, H1.out, by rw [hl2, HN.out], H2.out.ws, hs2⟩, grown_trans A2.out H3.out, H4.out.trans A3.out⟩
end Go.Proofs.Tz

/- Numbers in blocks: what holds one, what gives room for one; make at either. -/
namespace Go.Proofs.Tz
open Go.RowKit Mv

/-- The block b of c cells holds the words ws. -/
def Hold (w : World) (b c : Nat) (ws : List Nat) : Prop := ∃ cs, Arr w b 160 cs ∧ cs.length = c ∧ ws.length ≤ c ∧ Sub cs 0 ws ∧ c ≤ 100000000
theorem Hold.lt {w : World} {b c : Nat} {ws : List Nat} (h : Hold w b c ws) : b < w.heap.size := by
  obtain ⟨cs, h1, _⟩ := h
  exact h1.lt
theorem Hold.fit {w : World} {b c : Nat} {ws : List Nat} (h : Hold w b c ws) : ws.length ≤ c ∧ c ≤ 100000000 := by
  obtain ⟨cs, _, _, h1, _, h2⟩ := h
  exact ⟨h1, h2⟩
theorem Hold.cell {w : World} {b c : Nat} {ws : List Nat} (h : Hold w b c ws) {i x : Nat} (hi : ws[i]? = some x) : w.cell? ⟨b, i, none⟩ = some (word x) := by
  obtain ⟨cs, h1, _, _, h2, _⟩ := h
  have := h2 i x hi
  rw [Nat.zero_add] at this
  exact h1.cell this
theorem Hold.keep {w w' : World} {b c : Nat} {ws : List Nat} (h : Hold w b c ws) (he : w'.heap[b]? = w.heap[b]?) : Hold w' b c ws := by
  obtain ⟨cs, h1, h2⟩ := h
  exact ⟨cs, he.trans h1, h2⟩
theorem Hold.below {w w' : World} {b c : Nat} {ws : List Nat} (h : Hold w b c ws) (hb : Below w.heap.size w w') : Hold w' b c ws := h.keep (hb.block b h.lt)
theorem Hold.only {P : Nat → Prop} {w w' : World} {b c : Nat} {ws : List Nat} (h : Hold w b c ws) (ho : Only P w w') (hp : ¬ P b) : Hold w' b c ws := h.keep (ho.block b h.lt hp)
theorem Hold.drewN {w : World} {b c : Nat} {ws : List Nat} (h : Hold w b c ws) (n : Nat) : Hold (w.drewN n) b c ws := h.keep rfl
theorem Hold.of {w : World} {b : Nat} {cs : List Value} {ws : List Nat} (h : Arr w b 160 cs) (hs : Sub cs 0 ws) (hl : ws.length ≤ cs.length) (hc : cs.length ≤ 100000000) : Hold w b cs.length ws := ⟨cs, h, rfl, hl, hs, hc⟩

/-- A number whose storage may be used: none, or a whole block. -/
def ZOk (w : World) (z : Value) : Prop := z = .slice none 0 0 ∨ ∃ b l c cs, z = .slice (some ⟨b, 0, none⟩) l c ∧ Arr w b 160 cs ∧ cs.length = c ∧ l ≤ c ∧ c ≤ 100000000
theorem ZOk.nil (w : World) : ZOk w (.slice none 0 0) := .inl rfl
theorem Hold.zok {w : World} {b c : Nat} {ws : List Nat} (h : Hold w b c ws) : ZOk w (.slice (some ⟨b, 0, none⟩) ws.length c) := by
  obtain ⟨cs, h1, h2, h3, _, h4⟩ := h
  exact .inr ⟨b, ws.length, c, cs, rfl, h1, h2, h3, h4⟩
theorem ZOk.keep {w w' : World} {z : Value} (h : ZOk w z) (he : ∀ b, z.ownBlock = some b → w'.heap[b]? = w.heap[b]?) : ZOk w' z := by
  rcases h with rfl | ⟨b, l, c, cs, rfl, h1, h2⟩
  · exact .inl rfl
  · exact .inr ⟨b, l, c, cs, rfl, (he b rfl).trans h1, h2⟩
theorem ZOk.lt {w : World} {z : Value} (h : ZOk w z) {b : Nat} (hb : z.ownBlock = some b) : b < w.heap.size := by
  rcases h with rfl | ⟨b', l, c, cs, rfl, h1, h2⟩
  · cases hb
  · have : b' = b := by injection hb
    subst this
    exact h1.lt
theorem ZOk.below {w w' : World} {z : Value} (h : ZOk w z) (hb : Below w.heap.size w w') : ZOk w' z := h.keep fun b e => hb.block b (h.lt e)
theorem ZOk.drewN {w : World} {z : Value} (h : ZOk w z) (n : Nat) : ZOk (w.drewN n) z := h.keep fun _ _ => rfl

/-- What make gives: a block that z had, or a new one. -/
def Made (w : World) (z : Value) (n : Nat) (e : Ending) (w' : World) : Prop :=
  ∃ b c cs, e = .returned (.slice (some ⟨b, 0, none⟩) n c) ∧ Arr w' b 160 cs ∧ cs.length = c ∧ n ≤ c ∧ c ≤ 100000000 ∧ (z.ownBlock = some b ∨ w.heap.size ≤ b) ∧ Below w.heap.size w w'
theorem make_any (z : Value) (n : Nat) (w : World) (hz : ZOk w z) (h0 : 0 < n) (hn : n ≤ 10000000) : Calls Tryz.prog 149 #[z, .int .i64 n] w (Made w z n) := by
  rcases hz with rfl | ⟨b, l, c, cs, rfl, h1, h2, h3, h4⟩
  · refine (make_new none 0 0 n h0 (by omega) w).mono ?_
    rintro e w' ⟨c', g1, g2, rfl, g3, g4⟩
    exact ⟨w.heap.size, c', zs c', rfl, g3, zs_length _, g1, by omega, .inr (Nat.le_refl _), g4⟩
  · by_cases hf : n ≤ c
    · refine (make_fits (some ⟨b, 0, none⟩) l c n hf (by omega) w).mono ?_
      rintro e w' ⟨rfl, rfl⟩
      exact ⟨b, c, cs, rfl, h1, h2, hf, h4, .inl rfl, Below.refl _ _⟩
    · refine (make_new (some ⟨b, 0, none⟩) l c n (by omega) (by omega) w).mono ?_
      rintro e w' ⟨c', g1, g2, rfl, g3, g4⟩
      exact ⟨w.heap.size, c', zs c', rfl, g3, zs_length _, g1, by omega, .inr (Nat.le_refl _), g4⟩
end Go.Proofs.Tz

/- Contract of alias: two numbers in unlike blocks. -/
namespace Go.Proofs.Tz
open Go.RowKit Mv

set_option maxHeartbeats 2000000 in
theorem alias_no (bx lx cx b2 ly cy : Nat) (T1 T2 : TypeId) (cs1 cs2 : List Value) (hne : bx ≠ b2) (h1 : lx ≤ cx) (h2 : ly ≤ cy) (hc1 : cx ≤ 1000000000) (hc2 : cy ≤ 1000000000) (w : World) (hA : Arr w bx T1 cs1) (hB : Arr w b2 T2 cs2) :
    Calls Tryz.prog 168 #[.slice (some ⟨bx, 0, none⟩) lx cx, .slice (some ⟨b2, 0, none⟩) ly cy] w fun e w' => e = .returned (.bool false) ∧ ∃ k, w' = w.drewN k := by
  by_cases c1 : 0 < cx
  · by_cases c2 : 0 < cy
    · obtain ⟨c, rfl⟩ : ∃ c, cx = c + 1 := ⟨cx - 1, by omega⟩
      obtain ⟨d, rfl⟩ : ∃ d, cy = d + 1 := ⟨cy - 1, by omega⟩
      have q1 : (0 : Int) < (c : Int) + 1 := by omega
      have q2 : (0 : Int) < (d : Int) + 1 := by omega
      have q3 : IntKind.i64.wrap (c : Int) = c := by rw [IntKind.wrap_i64]; omega
      have q4 : IntKind.i64.wrap (d : Int) = d := by rw [IntKind.wrap_i64]; omega
      have q5 : (0 : Int) ≤ c := by omega
      have q6 : (0 : Int) ≤ d := by omega
      have q7 : (c : Int) < (c : Int) + 1 := by omega
      have q9 : (0 : Int) ≤ (c : Int) + 1 := by omega
      have q10 : (0 : Int) ≤ (d : Int) + 1 := by omega
      have q8 : (d : Int) < (d : Int) + 1 := by omega
      have heq : ∀ m, (binOp .eql 248 (.pointer (some ⟨bx, c, none⟩)) (.pointer (some ⟨b2, d, none⟩))).run Tryz.prog (w.drewN m) = .ok (.bool false) (w.drewN m) := fun m => by
        have hi : (Tryz.prog.info? 160).map (·.size) = some 1 := by kernel_rfl
        obtain ⟨j, hj, hs⟩ := Option.map_eq_some_iff.1 hi
        have hs1 : j.size ≠ 0 := by have : j.size = 1 := hs; omega
        exact run_eql_ptr_other (w.drewN m) (a := ⟨bx, c, none⟩) (b := ⟨b2, d, none⟩) Tryz.underlying248 hj hs1 (fun e => hne (by injection e)) (hA.drewN m) (hB.drewN m)
      go_enter Tryz.func168, Tryz.ntmps168
      go_wp2_with fail
      go_quiet (fail)
      go_wp2_with fail
      go_ret
      exact ⟨rfl, _, rfl⟩
    · obtain rfl : cy = 0 := by omega
      go_enter Tryz.func168, Tryz.ntmps168
      go_wp2_with fail
      go_quiet (fail)
      go_wp2_with fail
      go_ret
      exact ⟨rfl, _, rfl⟩
  · obtain rfl : cx = 0 := by omega
    go_enter Tryz.func168, Tryz.ntmps168
    go_wp2_with fail
    go_quiet (fail)
    go_wp2_with fail
    go_ret
    exact ⟨rfl, _, rfl⟩

set_option maxHeartbeats 2000000 in
theorem alias_nil (a : Option Addr) (l c : Nat) (w : World) :
    Calls Tryz.prog 168 #[.slice none 0 0, .slice a l c] w fun e w' => e = .returned (.bool false) ∧ ∃ k, w' = w.drewN k := by
  go_enter Tryz.func168, Tryz.ntmps168
  go_wp2_with fail
  go_quiet (fail)
  go_wp2_with fail
  go_ret
  exact ⟨rfl, _, rfl⟩
end Go.Proofs.Tz

/- Contract of nat.sqr at numbers of one to eleven words. -/
namespace Go.Proofs.Tz
open Go.RowKit Mv

theorem Hold.norm {w : World} {b : Nat} {cs : List Value} {ps : List Nat} (h : Arr w b 160 (put cs 0 (wds ps))) (hl : ps.length ≤ cs.length) (hc : cs.length ≤ 100000000) : Hold w b cs.length (normL ps) := by
  obtain ⟨n, h1, h2, _⟩ := normL_take ps
  refine ⟨_, h, put_length (by rw [wds_length]; omega), ?_, ?_, hc⟩
  · rw [h2, List.length_take]; omega
  · rw [h2]; exact (Sub.put_in (by omega)).take n
theorem alias_z {w : World} {z : Value} {bx cx n : Nat} {xs : List Nat} (hz : ZOk w z) (hX : Hold w bx cx xs) (hzb : z.ownBlock ≠ some bx) (hn : xs.length = n) :
    Calls Tryz.prog 168 #[z, .slice (some ⟨bx, 0, none⟩) n cx] w fun e w' => e = .returned (.bool false) ∧ ∃ k, w' = w.drewN k := by
  rcases hz with rfl | ⟨b, l, c, cs, rfl, h1, h2, h3, h4⟩
  · exact alias_nil _ _ _ w
  · obtain ⟨cx2, g1, g2, g3, g4, g5⟩ := hX
    exact alias_no b l c bx n cx 160 160 cs cx2 (fun e => hzb (by rw [e]; rfl)) h3 (by omega) (by omega) (by omega) w h1 g1

set_option maxHeartbeats 1000000 in
theorem mulWW_any (x y : Nat) (hx : x < WB) (hy : y < WB) (w : World) :
    Calls Tryz.prog 167 #[.int .u64 x, .int .u64 y] w fun e w' => e = .returned (.tuple #[.int .u64 ((x * y / WB : Nat) : Int), .int .u64 ((x * y % WB : Nat) : Int)]) ∧ w = w' := by
  have H := Lib.hid (mul_any x y hx hy w)
  obtain ⟨a, ha⟩ : ∃ a, a = x * y / WB := ⟨_, rfl⟩
  obtain ⟨b, hb⟩ : ∃ a, a = x * y % WB := ⟨_, rfl⟩
  rw [← ha, ← hb] at H ⊢
  clear ha hb hx hy
  go_enter Tryz.func167, Tryz.ntmps167
  go_wp2_with fail
  (with_reducible refine H.out.mono ?_)
  rintro e w1 ⟨rfl, rfl⟩
  go_wp2_with fail
  go_ret2
  exact ⟨rfl, rfl⟩

/-- What sqr leaves. -/
def Squared (w : World) (z : Value) (bx : Nat) (xs : List Nat) (e : Ending) (w' : World) : Prop :=
  ∃ b c ps, e = .returned (.slice (some ⟨b, 0, none⟩) ps.length c) ∧ Hold w' b c ps ∧ Ws ps ∧ Nrm ps ∧ val ps = val xs * val xs ∧ b ≠ bx ∧ (z.ownBlock = some b ∨ w.heap.size ≤ b) ∧ w.grownBy w' z.ownBlock

theorem grown_make {a b c : World} {z : Value} {k : Nat} (hb : Below a.heap.size a b) (hk : z.ownBlock = some k ∨ a.heap.size ≤ k) (hg : b.grownBy c (some k)) : a.grownBy c z.ownBlock := by
  refine ⟨hg.os.trans hb.os, hg.tape.trans hb.tape, hg.output.trans hb.output, Nat.le_trans hb.size hg.size, fun j hj hne => ?_⟩
  have h1 := hb.block j hj
  refine (hg.block j (Nat.lt_of_lt_of_le hj hb.size) (fun e => ?_)).trans h1
  injection e with e
  subst e
  rcases hk with h | h
  · exact hne h.symm
  · omega

set_option maxHeartbeats 4000000 in
set_option maxRecDepth 100000 in
theorem sqr_small (z sv : Value) (bx cx n : Nat) (xs : List Nat) (w : World) (c13 : w.cell? ⟨13, 0, none⟩ = some (.int .i64 12)) (c14 : w.cell? ⟨14, 0, none⟩ = some (.int .i64 80))
    (hz : ZOk w z) (hzb : z.ownBlock ≠ some bx) (hX : Hold w bx cx xs) (hn : xs.length = n) (h2 : 2 ≤ n) (h11 : n ≤ 11) (hx : Ws xs) :
    Calls Tryz.prog 147 #[z, sv, .slice (some ⟨bx, 0, none⟩) n cx] w (Squared w z bx xs) := by
  have hal := alias_z hz hX hzb hn
  have n0 : ((n : Int) == 0) = false := by simp only [beq_eq_false_iff_ne, ne_eq]; omega
  have n1 : ((n : Int) == 1) = false := by simp only [beq_eq_false_iff_ne, ne_eq]; omega
  have hmk : ∀ k, Calls Tryz.prog 149 #[z, .int .i64 (2 * (n : Int))] (w.drewN k) (Made (w.drewN k) z (2 * n)) := fun k => by
    have := make_any z (2 * n) (w.drewN k) (hz.drewN k) (by omega) (by omega)
    rw [show ((2 * n : Nat) : Int) = 2 * (n : Int) by omega] at this
    exact this
  have HAL := Lib.hid hal
  have HMK := Lib.hid hmk
  have HX := Lib.hid hX
  have HN := Lib.hid hn
  have HW := Lib.hid hx
  have HZB := Lib.hid hzb
  have HC := Lib.hid (And.intro c13 c14)
  clear hal hmk hX hn hx hz hzb c13 c14
  go_enter_defers Tryz.func147, Tryz.ntmps147
  go_wp2_with fail
  (with_reducible refine HAL.out.mono ?_)
  rintro e w1 ⟨rfl, k, rfl⟩
  go_wp2_with fail
  (with_reducible refine (HMK.out _).mono ?_)
  rintro e w2 ⟨b, c, cs, rfl, m1, m2, m3, m4, m5, m6⟩
  have hB2 : Below w.heap.size w w2 := (show Below w.heap.size w (w.drewN k) from ⟨rfl, rfl, rfl, Nat.le_refl _, fun _ _ => rfl⟩).trans m6
  have m5 : z.ownBlock = some b ∨ w.heap.size ≤ b := m5
  have hbx : bx ≠ b := by
    intro e
    rcases m5 with h | h
    · exact HZB.out (by rw [h, e])
    · have := HX.out.lt; omega
  have g13 := cell_keep hB2 HC.out.1
  have g14 := cell_keep hB2 HC.out.2
  have hX2 := HX.out.below hB2
  have hbm := basicMul_any b c bx cx n xs cs w2 m1 (fun i x h => hX2.cell h) hbx HN.out (by omega) (by omega) (by omega) (by omega) HW.out
  rw [Int.toNat_natCast, show n + n = 2 * n by omega] at hbm
  have HBM := Lib.hid hbm
  have HM := Lib.hid (And.intro m2 (And.intro m3 (And.intro m4 (And.intro m5 (And.intro hB2 hbx)))))
  clear hbm m1 m2 m3 m4 m5 m6 hB2 hbx hX2
  go_wp2_with fail
  (with_reducible refine HBM.out.mono ?_)
  rintro e w3 ⟨rfl, ⟨ps, p1, p2, p3, p4⟩, hg, hs⟩
  obtain ⟨m2, m3, m4, m5, hB2, hbx⟩ := HM.out
  have hno := norm_any b 0 c ps w3 (fun i y hy => p1.cell (by
    rw [put_get_in (by omega) (by rw [wds_length]; exact (List.getElem?_eq_some_iff.1 hy).1)]
    exact wds_get hy)) (by omega) (by omega)
  rw [p2] at hno
  have hfin : Hold w3 b c (normL ps) ∧ Ws (normL ps) ∧ Nrm (normL ps) ∧ val (normL ps) = val xs * val xs ∧ b ≠ bx ∧ (z.ownBlock = some b ∨ w.heap.size ≤ b) ∧ w.grownBy w3 z.ownBlock := by
    refine ⟨?_, p3.norm, nrm_normL _, by rw [val_normL]; exact p4, Ne.symm hbx, m5, grown_make hB2 m5 hg⟩
    rw [← m2]
    exact Hold.norm p1 (by omega) (by omega)
  have HNO := Lib.hid hno
  have HF := Lib.hid hfin
  clear hno hfin p1 p2 p3 p4 hg hs m2 m3 m4 m5 hB2 hbx g13 g14
  go_wp2_with fail
  (with_reducible refine HNO.out.mono ?_)
  rintro e w4 ⟨rfl, rfl⟩
  go_wp2_with fail
  exact ⟨_, results_tmp rfl _ _ _, b, c, normL ps, rfl, HF.out⟩

set_option maxHeartbeats 4000000 in
set_option maxRecDepth 100000 in
theorem sqr_one (z sv : Value) (bx cx x : Nat) (w : World) (hz : ZOk w z) (hzb : z.ownBlock ≠ some bx) (hX : Hold w bx cx [x]) (hx : x < WB) :
    Calls Tryz.prog 147 #[z, sv, .slice (some ⟨bx, 0, none⟩) 1 cx] w (Squared w z bx [x]) := by
  have c0 : w.cell? ⟨bx, 0, none⟩ = some (.int .u64 (x : Int)) := hX.cell rfl
  have hmk : Calls Tryz.prog 149 #[z, .int .i64 2] w (Made w z 2) := make_any z 2 w hz (by omega) (by omega)
  have HMK := Lib.hid hmk
  have HX := Lib.hid hX
  have HZB := Lib.hid hzb
  have hmul : ∀ w : World, Calls Tryz.prog 167 #[.int .u64 x, .int .u64 x] w fun e w' => e = .returned (.tuple #[.int .u64 ((x * x / WB : Nat) : Int), .int .u64 ((x * x % WB : Nat) : Int)]) ∧ w = w' := fun w => mulWW_any x x hx hx w
  obtain ⟨hi, hhi⟩ : ∃ h, h = x * x / WB := ⟨_, rfl⟩
  obtain ⟨lo, hlo⟩ : ∃ h, h = x * x % WB := ⟨_, rfl⟩
  rw [← hhi, ← hlo] at hmul
  have HMU := Lib.hid hmul
  have HV := Lib.hid (And.intro hhi (And.intro hlo hx))
  clear hmk hX hz hzb hmul hhi hlo hx
  go_enter_defers Tryz.func147, Tryz.ntmps147
  go_wp2_with fail
  (with_reducible refine HMK.out.mono ?_)
  rintro e w2 ⟨b, c, cs, rfl, m1, m2, m3, m4, m5, m6⟩
  obtain ⟨v0, d0⟩ := m1.get (j := 0) (by omega)
  obtain ⟨v1, d1⟩ := m1.get (j := 1) (by omega)
  have f0 := m1.free 0
  have f1 := m1.free 1
  have HM := Lib.hid (And.intro m1 (And.intro m2 (And.intro m3 (And.intro m4 (And.intro m5 m6)))))
  clear m1 m2 m3 m4 m5 m6
  go_wp2_with fail
  (with_reducible refine (HMU.out _).mono ?_)
  rintro e w3 ⟨rfl, rfl⟩
  obtain ⟨m1, m2, m3, m4, m5, m6⟩ := HM.out
  obtain ⟨v1, v2, v3⟩ := HV.out
  obtain ⟨w3, hw3⟩ : ∃ w3, (w2.setCell ⟨b, 1, none⟩ (.int .u64 (hi : Int))).setCell ⟨b, 0, none⟩ (.int .u64 (lo : Int)) = w3 := ⟨_, rfl⟩
  have hA : Arr w3 b 160 (put cs 0 (wds [lo, hi])) := by
    have := (m1.set 1 (word hi)).set 0 (word lo)
    have e : put cs 0 (wds [lo, hi]) = (cs.set 1 (word hi)).set 0 (word lo) := by
      show put cs 0 [word lo, word hi] = _
      rw [put_cons (by simp; omega), put_one1 (by omega)]
    rw [e, ← hw3]; exact this
  have hg : w2.grownBy w3 (some b) := by rw [← hw3]; exact grown_trans (grownBy_set _ _ _ _) (grownBy_set _ _ _ _)
  have hwl : Ws [lo, hi] := Ws.mk (by rw [v2]; exact Nat.mod_lt _ WB_pos) (Ws.mk (by rw [v1, Nat.div_lt_iff_lt_mul WB_pos]; exact Nat.lt_of_le_of_lt (Nat.mul_le_mul_left _ (Nat.le_of_lt v3)) (Nat.mul_lt_mul_of_pos_right v3 WB_pos)) Ws.nil)
  have hval : val [lo, hi] = val [x] * val [x] := by
    simp only [val_cons, val_nil, Nat.mul_zero, Nat.add_zero]
    rw [v1, v2]; exact Nat.mod_add_div _ _
  have hno := norm_any b 0 c [lo, hi] w3 (fun i y hy => hA.cell (by
    rw [put_get_in (by omega) (by rw [wds_length]; exact (List.getElem?_eq_some_iff.1 hy).1)]
    exact wds_get hy)) m3 (by simp)
  have hbx : b ≠ bx := by
    intro e
    rcases m5 with h | h
    · exact HZB.out (by rw [h, e])
    · have := HX.out.lt; omega
  have hfin : Hold w3 b c (normL [lo, hi]) ∧ Ws (normL [lo, hi]) ∧ Nrm (normL [lo, hi]) ∧ val (normL [lo, hi]) = val [x] * val [x] ∧ b ≠ bx ∧ (z.ownBlock = some b ∨ w.heap.size ≤ b) ∧ w.grownBy w3 z.ownBlock := by
    refine ⟨?_, hwl.norm, nrm_normL _, by rw [val_normL]; exact hval, hbx, m5, grown_make m6 m5 hg⟩
    rw [← m2]
    exact Hold.norm hA (by simp; omega) (by omega)
  have HNO := Lib.hid hno
  have HF := Lib.hid hfin
  clear hno hfin hA hg hwl hval hbx v1 v2 v3 m1 m2 m3 m4 m5 m6
  simp only [List.length_cons, List.length_nil] at HNO
  go_wp2_with fail
  (with_reducible refine HNO.out.mono ?_)
  rintro e w4 ⟨rfl, rfl⟩
  go_wp2_with fail
  exact ⟨_, results_tmp rfl _ _ _, b, c, normL [lo, hi], rfl, HF.out⟩
end Go.Proofs.Tz

/- Contract of divBasic: long division, digit by digit. -/
namespace Go.Proofs.Mv
/-- A guess for a digit: right, or one too great. -/
def Guess (us vs : List Nat) (j q : Nat) : Prop := val (us.drop j) / val vs ≤ q ∧ q ≤ val (us.drop j) / val vs + 1 ∧ q < WB
theorem fits_guess {us vs qh : List Nat} {U j kk q v1 v2 u0 u1 u2 : Nat} (h : DInv us qh U (val vs) (j + 1)) (hu : Ws us) (hv : Ws vs) (hn : vs.length = kk + 2) (hj : j + (kk + 2) < us.length)
    (e1 : vs[kk + 1]? = some v1) (e2 : vs[kk]? = some v2) (d0 : us[j + kk + 2]? = some u0) (d1 : us[j + kk + 1]? = some u1) (d2 : us[j + kk]? = some u2) (hv1 : WB ≤ 2 * v1) (hq : q < WB) (hf : Fits3 v1 v2 u0 u1 u2 q) : Guess us vs j q := by
  have hVn : val vs ≤ WB ^ (kk + 2) := by rw [← hn]; exact Nat.le_of_lt (val_lt hv)
  obtain ⟨s1, s2, s3⟩ := sec_val hu h.low hVn hj
  have hsl : ((us.drop j).take (kk + 2 + 1)).length = kk + 3 := by rw [List.length_take, List.length_drop]; omega
  have g := guess_ok (sec := (us.drop j).take (kk + 2 + 1)) (n := kk) hv ((hu.drop j).take _) hn hsl e1 e2
    (by rw [List.getElem?_take_of_lt (by omega), List.getElem?_drop]; exact d0) (by rw [List.getElem?_take_of_lt (by omega), List.getElem?_drop]; exact d1) (by rw [List.getElem?_take_of_lt (by omega), List.getElem?_drop]; exact d2)
    (by have := WB_pos; omega) hq hf
  rw [s1] at g
  exact ⟨g.1, g.2, hq⟩
theorem top_guess {us vs qh : List Nat} {U j kk v1 v2 : Nat} (h : DInv us qh U (val vs) (j + 1)) (hu : Ws us) (hv : Ws vs) (hn : vs.length = kk + 2) (hj : j + (kk + 2) < us.length)
    (e1 : vs[kk + 1]? = some v1) (e2 : vs[kk]? = some v2) (d0 : us[j + kk + 2]? = some v1) (hv1 : WB ≤ 2 * v1) : Guess us vs j (WB - 1) := by
  have hVn : val vs ≤ WB ^ (kk + 2) := by rw [← hn]; exact Nat.le_of_lt (val_lt hv)
  obtain ⟨s1, s2, s3⟩ := sec_val hu h.low hVn hj
  have hsl : ((us.drop j).take (kk + 2 + 1)).length = kk + 3 := by rw [List.length_take, List.length_drop]; omega
  obtain ⟨u1, d1⟩ : ∃ x, us[j + (kk + 1)]? = some x := ⟨_, List.getElem?_eq_getElem (by omega)⟩
  obtain ⟨u2, d2⟩ : ∃ x, us[j + kk]? = some x := ⟨_, List.getElem?_eq_getElem (by omega)⟩
  have g := guess_top (sec := (us.drop j).take (kk + 2 + 1)) (n := kk) hv hn hsl e1 e2
    (by rw [List.getElem?_take_of_lt (by omega), List.getElem?_drop]; exact d0) (by rw [List.getElem?_take_of_lt (by omega), List.getElem?_drop]; exact d1) (by rw [List.getElem?_take_of_lt (by omega), List.getElem?_drop]; exact d2)
    hv1 (by rw [s1]; exact s3)
  rw [s1] at g
  exact ⟨g.1, g.2, by have := WB_pos; omega⟩
end Go.Proofs.Mv
namespace Go.Proofs.Tz
open Go.RowKit Mv

theorem arr_ne {w : World} {b1 b2 : Nat} {T1 T2 : TypeId} {c1 c2 : List Value} (h1 : Arr w b1 T1 c1) (h2 : Arr w b2 T2 c2) (ht : T1 ≠ T2) : b1 ≠ b2 := fun e => by
  rw [e] at h1; unfold Arr at h1 h2; rw [h1] at h2
  injection h2 with h2; injection h2 with _ h2; exact ht h2

/-- The blocks of the division as they stand: u, q, the products' block bh. -/
structure DSt (w1 wr : World) (bq bu bh kk k : Nat) (csq csu csh : List Value) (us qh : List Nat) : Prop where
  u : Arr wr bu 160 (put csu 0 (wds us))
  q : Arr wr bq 160 (put csq k (wds qh))
  h : ∃ cs, Arr wr bh 160 cs ∧ cs.length = csh.length ∧ ∀ i, i < kk + 2 → cs[i]? = csh[i]?
  o : Only (fun k => k = bq ∨ k = bu ∨ k = bh) w1 wr
theorem DSt.drewN {w1 wr : World} {bq bu bh kk k : Nat} {csq csu csh : List Value} {us qh : List Nat} (h : DSt w1 wr bq bu bh kk k csq csu csh us qh) (n : Nat) : DSt w1 (wr.drewN n) bq bu bh kk k csq csu csh us qh :=
  ⟨h.u.drewN n, h.q.drewN n, by obtain ⟨cs, h1, h2⟩ := h.h; exact ⟨cs, h1.drewN n, h2⟩, h.o.drewN n⟩

set_option maxHeartbeats 8000000 in
set_option maxRecDepth 100000 in
theorem divBasic_any (bq cq st si bw c bu cu kk m nr v1 v2 : Nat) (vs us : List Nat) (csq csw csu : List Value) (w : World)
    (hQ : Arr w bq 160 csq) (hql : m ≤ csq.length) (hU : Arr w bu 160 csu) (hus : Sub csu 0 us) (hul : us.length = m + (kk + 2)) (hucs : us.length ≤ csu.length) (hcu : us.length ≤ cu)
    (hB : StkB w st si bw (kk + 2) c csw) (hvs : Sub csw 0 vs) (hvl : vs.length = kk + 2) (hround : bits BinOp.andNot IntKind.i64 (((kk + 3 : Nat) : Int) + 3) 3 = (nr : Int)) (hnr : kk + 3 ≤ nr) (hnr2 : nr ≤ 1000) (hkk : kk ≤ 100) (hm : m ≤ 100)
    (e1 : vs[kk + 1]? = some v1) (e2 : vs[kk]? = some v2) (hv1 : WB ≤ 2 * v1) (hrec : RecOk v1) (hu : Ws us) (hv : Ws vs) (hlow : val (us.drop m) < val vs) (hne : bq ≠ bu) (hqw : bq ≠ bw) (huw : bu ≠ bw) (t0 : Nat) (ht0 : us[m + kk + 1]? = some t0) (ht0v : t0 < v1) :
    Calls Tryz.prog 200 #[.slice (some ⟨bq, 0, none⟩) m cq, .pointer (some ⟨st, 0, none⟩), .slice (some ⟨bu, 0, none⟩) (m + (kk + 2)) cu, .slice (some ⟨bw, 0, none⟩) (kk + 2) (kk + 2)] w fun e w' =>
      e = .returned (.tuple #[]) ∧ ∃ qh us' bw' c' csw', Arr w' bq 160 (put csq 0 (wds qh)) ∧ qh.length = m ∧ Ws qh ∧ val qh = val us / val vs ∧ Arr w' bu 160 (put csu 0 (wds us')) ∧ us'.length = m + (kk + 2) ∧ Ws us' ∧ val us' = val us % val vs ∧
        StkB w' st si bw' (kk + 2) c' csw' ∧ (bw' = bw ∨ w.heap.size ≤ bw') ∧ Only (fun k => k = bq ∨ k = bu ∨ k = si ∨ k = bw) w w' := by
  have hsv := save_some st si bw (kk + 2) c csw w hB
  have hnt := nat_more st si bw (kk + 2) c (kk + 3) nr csw w hB (by omega) hnr hnr2 (by omega) hround
  rw [show ((kk + 2 : Nat) : Int) = (kk : Int) + 2 by omega] at hsv
  rw [show ((kk + 3 : Nat) : Int) = (kk : Int) + 2 + 1 by omega] at hnt
  have hv1B := hv v1 (List.mem_of_getElem? e1)
  have HSV := Lib.hid hsv
  have HNT := Lib.hid hnt
  have HREC := Lib.hid (fun w => hrec w)
  obtain ⟨rc, hrc⟩ : ∃ rc, rc = recip v1 := ⟨_, rfl⟩
  rw [← hrc] at HREC
  have HQ := Lib.hid (And.intro hQ hql)
  have HU := Lib.hid (And.intro hU (And.intro hus (And.intro hucs hcu)))
  have HV := Lib.hid (And.intro hvs (And.intro hvl (And.intro e1 (And.intro e2 (And.intro hv1 (And.intro hv hv1B))))))
  have HUS := Lib.hid (And.intro hul (And.intro hu hlow))
  have HN := Lib.hid (And.intro hne (And.intro hqw (And.intro huw (And.intro hB.ne hB.inner.ne))))
  have HRC := Lib.hid hrc
  have HT0 := Lib.hid (And.intro ht0 ht0v)
  have HBB := Lib.hid hB
  clear hsv hnt hrec hQ hql hU hus hucs hcu hB hvs hvl e1 e2 hv1 hv hv1B hul hu hlow hne hqw huw hround hrc ht0 ht0v
  go_enter_defers Tryz.func200, Tryz.ntmps200
  go_wp2_with fail
  (with_reducible refine HSV.out.mono ?_)
  rintro e w1 ⟨rfl, rfl⟩
  go_wp2_with fail
  (with_reducible refine HNT.out.mono ?_)
  rintro e w2 ⟨⟨bh, ch, csh, rfl, g1, g2, g3, g4, g5⟩, g6⟩
  obtain ⟨hne, hqw, huw, hBne, hBne2⟩ := HN.out
  obtain ⟨hvs, hvl, e1, e2, hv1, hv, hv1B⟩ := HV.out
  have hqs : bq ≠ si := fun e => by
    have h1 := HQ.out.1
    have h2 := HBB.out.inner.hdr
    rw [e] at h1; unfold Arr at h1 h2; rw [h1] at h2
    injection h2 with h2; injection h2 with _ h2; exact absurd h2 (by decide)
  have hus' : bu ≠ si := fun e => by
    have h1 := HU.out.1
    have h2 := HBB.out.inner.hdr
    rw [e] at h1; unfold Arr at h1 h2; rw [h1] at h2
    injection h2 with h2; injection h2 with _ h2; exact absurd h2 (by decide)
  have hqh : bq ≠ bh := fun e => g2.elim (fun h => hqw (by rw [e, h])) (fun h => by have := HQ.out.1.lt; omega)
  have huh : bu ≠ bh := fun e => g2.elim (fun h => huw (by rw [e, h])) (fun h => by have := HU.out.1.lt; omega)
  have hvr : ∀ wr : World, (∃ cs, Arr wr bh 160 cs ∧ cs.length = csh.length ∧ ∀ i, i < kk + 2 → cs[i]? = csh[i]?) → Only (fun k => k = bq ∨ k = bu ∨ k = bh) w2 wr → ∀ i y, vs[i]? = some y → wr.cell? ⟨bw, i, none⟩ = some (word y) := by
    rintro wr ⟨cs, h1, _, h2⟩ ho i y hy
    have hi : i < kk + 2 := by have := (List.getElem?_eq_some_iff.1 hy).1; omega
    have hcw := hvs i y hy
    rw [Nat.zero_add] at hcw
    by_cases hb : bh = bw
    · rw [← hb]
      exact h1.cell (by rw [h2 i hi, g3 i hi]; exact hcw)
    · have e4 := g4 hb
      have hlt : bw < w2.heap.size := Nat.lt_of_lt_of_le HBB.out.inner.row.lt g5.size
      have e5 := ho.block bw hlt (fun h => h.elim (fun h => hqw h.symm) (fun h => h.elim (fun h => huw h.symm) (fun h => hb h.symm)))
      exact (HBB.out.inner.row.setOther (w := w) (a := ⟨bw + 1, 0, none⟩) (by simp) (.int .u64 0) |> fun _ => (show Arr wr bw 160 csw from (e5.trans e4).trans HBB.out.inner.row)).cell hcw
  have hr2 := hvr w2 ⟨csh, g1.row, rfl, fun _ _ => rfl⟩ (Only.refl _ _)
  have cv1 : w2.cell? ⟨bw, kk + 1, none⟩ = some (.int .u64 (v1 : Int)) := hr2 (kk + 1) v1 e1
  have q2 : Arr w2 bq 160 csq := HQ.out.1.only g5 (fun h => h.elim hqs hqw)
  have u2 : Arr w2 bu 160 csu := HU.out.1.only g5 (fun h => h.elim hus' huw)
  have HVR := Lib.hid hvr
  have HG := Lib.hid (And.intro g1 (And.intro g2 (And.intro g5 g6)))
  have HD := Lib.hid (And.intro hqs (And.intro hus' (And.intro hqh huh)))
  have HQ2 := Lib.hid (And.intro q2 u2)
  clear g1 g2 g3 g4 g5 g6 hne hqw huw hBne hBne2 hvs hvl e1 e2 hv1 hv hv1B hqs hus' hqh huh hvr hr2 q2 u2
  go_wp2_with fail
  (with_reducible refine (HREC.out _).mono ?_)
  rintro e w3 ⟨rfl, kq, hw3⟩
  have hd3 : DSt w2 w3 bq bu bh kk m csq csu csh us [] := by
    rw [hw3]
    refine DSt.drewN ⟨?_, ?_, ⟨csh, HG.out.1.row, rfl, fun _ _ => rfl⟩, Only.refl _ _⟩ _
    · rw [put_self HU.out.2.1 (by have := HU.out.2.2.1; omega)]; exact HQ2.out.2
    · show Arr w2 bq 160 (put csq m [])
      rw [put_nil]; exact HQ2.out.1
  have HD3 := Lib.hid hd3
  clear hd3 hw3 cv1
  go_wp2_with fail
  go_loopw [13, 14] (fun ujn j wr => ∃ (k u0 : Nat) (us' qh : List Nat), k ≤ m + 1 ∧ ujn = .int .u64 (u0 : Int) ∧ j = .int .i64 ((k : Int) - 1) ∧ Hid (k = m + 1 → us' = us ∧ qh = [] ∧ u0 = 0) ∧ Hid (k ≤ m → us'[k + kk + 1]? = some u0) ∧ Hid (DSt w2 wr bq bu bh kk (min k m) csq csu csh us' qh) ∧ Hid (us'.length = m + (kk + 2) ∧ Ws us' ∧ qh.length = m - min k m ∧ Ws qh ∧ DInv us' qh (val us) (val vs) (min k m))) (fun _ j _ => (intOf j + 1).toNat)
  case atStart =>
    refine ⟨m + 1, 0, us, [], Nat.le_refl _, rfl, by go_num, Lib.hid (fun _ => ⟨rfl, rfl, rfl⟩), Lib.hid (fun h => by omega), ?_, Lib.hid ⟨HUS.out.1, HUS.out.2.1, by simp, Ws.nil, ?_⟩⟩
    · rw [Nat.min_eq_right (Nat.le_succ m)]; exact HD3
    · rw [Nat.min_eq_right (Nat.le_succ m)]; exact DInv.start HUS.out.2.2
  case round =>
    obtain ⟨k, u0, us', qh, hk, rfl, rfl, H1, H2, H3, H4⟩ := hrel
    cases k with
    | zero =>
      obtain ⟨l1, l2, l3, l4, l5⟩ := H4.out
      rw [Nat.zero_min] at l3 l5
      have hd0 : DSt w2 wr bq bu bh kk 0 csq csu csh us' qh := by have := H3.out; rwa [Nat.zero_min] at this
      obtain ⟨g1, g2, g5, g6⟩ := HG.out
      obtain ⟨cs9, k1, k2, k3⟩ := hd0.h
      have hp2 : ∀ j, j ≠ bq → j ≠ bu → j ≠ bh → ¬ (j = bq ∨ j = bu ∨ j = bh) := fun j a b c h => h.elim a (fun h => h.elim b c)
      have hb9 : StkB wr st si bh (kk + 2 + nr) ch cs9 := ⟨g6.only hd0.o (hp2 st (arr_ne g6 HQ2.out.1 (by decide)) (arr_ne g6 HQ2.out.2 (by decide)) (arr_ne g6 g1.row (by decide))),
        g1.hdr.only hd0.o (hp2 si (arr_ne g1.hdr HQ2.out.1 (by decide)) (arr_ne g1.hdr HQ2.out.2 (by decide)) (arr_ne g1.hdr g1.row (by decide))), k1, by rw [k2]; exact g1.len, g1.fit, g1.cap⟩
      have hrs := restore_d st si bh (kk + 2 + nr) ch (kk + 2) cs9 .returning wr hb9 (by have := g1.fit; omega) (by omega)
      rw [show ((kk + 2 : Nat) : Int) = (kk : Int) + 2 by omega] at hrs
      have HRS := Lib.hid hrs
      have hdn := l5.done
      have hsib : si ≠ bq ∧ si ≠ bu := ⟨arr_ne g1.hdr HQ2.out.1 (by decide), arr_ne g1.hdr HQ2.out.2 (by decide)⟩
      have hof : Only (fun k => k = bq ∨ k = bu ∨ k = si ∨ k = bw) w wr := ⟨hd0.o.os.trans g5.os, hd0.o.tape.trans g5.tape, hd0.o.output.trans g5.output, Nat.le_trans g5.size hd0.o.size, fun j hj hn =>
        (hd0.o.block j (Nat.lt_of_lt_of_le hj g5.size) fun h => hn (by
          rcases h with h | h | h
          · exact .inl h
          · exact .inr (.inl h)
          · rcases g2 with e | e
            · exact .inr (.inr (.inr (by rw [h, e])))
            · omega)).trans (g5.block j hj fun h => hn (.inr (.inr h)))⟩
      have HF := Lib.hid (And.intro hd0.q (And.intro hd0.u (And.intro hdn (And.intro hsib (And.intro hof (And.intro l1 (And.intro l2 (And.intro l3 (And.intro l4 g2)))))))))
      clear l1 l2 l3 l4 l5 hd0 g1 g2 g5 g6 k1 k2 k3 hp2 hb9 hrs hdn hsib hof
      go_wp2_with fail
      refine leaves_cons (f := 191) (args := #[.pointer (some ⟨st, 0, none⟩), .int .i64 ((kk : Int) + 2)]) (by simp) (by simp [go_sem]) ?_
      refine HRS.out.mono ?_
      rintro e u' w8 ⟨rfl, rfl, m1, m2, m3⟩
      obtain ⟨f1, f2, f3, f4, f5, l1, l2, l3, l4, g2⟩ := HF.out
      exact ⟨_, results_none rfl _ _ _, rfl, qh, us', bh, ch, cs9, f1.other m2 (fun e => f4.1 (by injection e with e; exact e.symm)), by omega, l4, f3.1, f2.other m2 (fun e => f4.2 (by injection e with e; exact e.symm)), l1, l2, f3.2, m1, g2, f5.of_grown m2 (.inr (.inr (.inl rfl)))⟩
    | succ j =>
      rw [show (((j + 1 : Nat) : Int) - 1) = (j : Int) by omega]
      by_cases hjm : j = m
      · obtain ⟨rfl, rfl, rfl⟩ := H1.out (by omega)
        rw [Nat.min_eq_right (by omega)] at H3 H4
        obtain ⟨l1, l2, l3, l4, l5⟩ := H4.out
        obtain ⟨hvs, hvl, e1, e2, hv1, hv, hv1B⟩ := HV.out
        obtain ⟨htt, httv⟩ := HT0.out
        subst hjm
        obtain ⟨u2, d2⟩ : ∃ x, us'[j + kk]? = some x := ⟨_, List.getElem?_eq_getElem (by omega)⟩
        have hcu : ∀ (wr : World), Arr wr bu 160 (put csu 0 (wds us')) → ∀ (i x : Nat), us'[i]? = some x → wr.cell? ⟨bu, i, none⟩ = some (.int .u64 (x : Int)) := fun wr h i x hx => h.cell (by
          have := put_get_in (cs := csu) (vs := wds us') (off := 0) (i := i) (by omega) (by rw [wds_length]; exact (List.getElem?_eq_some_iff.1 hx).1)
          rw [Nat.zero_add] at this
          rw [this]; exact wds_get hx)
        have HCU := Lib.hid hcu
        have c1 := hcu wr H3.out.u _ _ htt
        have i1 : (j : Int) + ((kk : Int) + 2) - 1 = ((j + kk + 1 : Nat) : Int) := by omega
        have hu2B := l2 u2 (List.mem_of_getElem? d2)
        have hv2B := hv v2 (List.mem_of_getElem? e2)
        have m1 : ((0 : Int) == (v1 : Int)) = false := by have := WB_pos; simp only [beq_eq_false_iff_ne, ne_eq]; omega
        have hcd : ∀ w : World, Calls Tryz.prog 204 #[.int .u64 0, .int .u64 t0, .int .u64 v1, .int .u64 rc] w fun e w' => e = .returned (.tuple #[.int .u64 0, .int .u64 t0]) ∧ ∃ k, w' = w.drewN k := fun w => by
          have := divWW_any 0 t0 v1 rc hv1 hv1B (by omega) (by omega) HRC.out w
          rw [Nat.zero_mul, Nat.zero_add, Nat.div_eq_of_lt httv, Nat.mod_eq_of_lt httv] at this
          exact this
        have hmw : ∀ w : World, Calls Tryz.prog 167 #[.int .u64 0, .int .u64 v2] w fun e w' => e = .returned (.tuple #[.int .u64 0, .int .u64 0]) ∧ w = w' := fun w => by
          have := mulWW_any 0 v2 WB_pos hv2B w
          rw [Nat.zero_mul, Nat.zero_div, Nat.zero_mod] at this
          exact this
        have hgr : ∀ w : World, Calls Tryz.prog 235 #[.int .u64 0, .int .u64 0, .int .u64 t0, .int .u64 u2] w fun e w' => e = .returned (.bool false) ∧ w = w' := fun w => by
          have := greater_any 0 0 t0 u2 w
          rw [decide_eq_false (by omega)] at this
          exact this
        have HCD := Lib.hid hcd
        have HMW := Lib.hid hmw
        have HGR := Lib.hid hgr
        have HD0 := Lib.hid (And.intro d2 (And.intro e2 (And.intro hvl (And.intro hv (And.intro hvs (And.intro l1 (And.intro l2 l5)))))))
        clear l1 l2 l3 l4 l5 hvs hvl e1 e2 hv1 hv hv1B hcd hmw hgr hcu hu2B hv2B d2
        go_wp2_with fail
        (with_reducible refine (HCD.out _).mono ?_)
        rintro e w4 ⟨rfl, kq2, hw4⟩
        have hd4 : DSt w2 w4 bq bu bh kk j csq csu csh us' [] := by rw [hw4]; exact H3.out.drewN _
        have c2 : w4.cell? ⟨bw, kk, none⟩ = some (.int .u64 (v2 : Int)) := HVR.out w4 hd4.h hd4.o kk v2 HD0.out.2.1
        have c3 := HCU.out w4 hd4.u _ _ HD0.out.1
        have i2 : (j : Int) + ((kk : Int) + 2) - 2 = ((j + kk : Nat) : Int) := by omega
        have i3 : (kk : Int) + 2 - 2 = (kk : Int) := by omega
        have H34 := Lib.hid hd4
        clear hw4 hd4 c1
        go_wp2_with fail
        (with_reducible refine (HMW.out _).mono ?_)
        rintro e w5 ⟨rfl, rfl⟩
        go_wp2_with fail
        refine wp_loop_rounds 1 ?_
        rw [rounds_succ]
        go_wp2_with fail
        (with_reducible refine (HGR.out _).mono ?_)
        rintro e w5 ⟨rfl, rfl⟩
        obtain ⟨d2, e2, hvl, hv, hvs, l1, l2, l5⟩ := HD0.out
        obtain ⟨csx, x1, x2, x3⟩ := H34.out.h
        have hfit := HG.out.1.fit
        have hlen := HG.out.1.len
        have hvrd := HVR.out w4 H34.out.h H34.out.o
        have hbwl : bw < w4.heap.size := World.block_lt_of_cell? w4 _ c2
        have hmu := mulAddVWW_D bh (kk + 2) (kk + 3) bw 0 (kk + 2) vs 0 0 160 csx w4 x1 ⟨fun i y hy => by rw [Nat.zero_add]; exact hvrd i y hy, .inr (by omega), hbwl⟩ (by omega) (by omega) hv WB_pos WB_pos
        have hm0 := mulAddL_val 0 vs 0
        rw [Nat.zero_mul, Nat.add_zero] at hm0
        have hcy : (mulAddL 0 0 vs).2 = 0 := by
          rcases Nat.eq_zero_or_pos (mulAddL 0 0 vs).2 with g | g
          · exact g
          · have h1 := Nat.mul_le_mul_left (WB ^ vs.length) g
            have h2 : 0 < WB ^ vs.length := Nat.pow_pos WB_pos
            omega
        have hPl : (mulAddL 0 0 vs).1.length = kk + 2 := by rw [mulAddL_len, hvl]
        have hPw := (mulAddL_ws WB_pos hv 0 WB_pos).1
        have hP0 : val (mulAddL 0 0 vs).1 = 0 := by omega
        obtain ⟨P, hP⟩ : ∃ P, P = (mulAddL 0 0 vs).1 := ⟨_, rfl⟩
        rw [hcy, ← hP, hvl] at hmu
        rw [← hP] at hPl hPw hP0
        have hmu' : Calls Tryz.prog 148 #[.slice (some ⟨bh, kk + 2, none⟩) (kk + 2) (kk + 3), .slice (some ⟨bw, 0, none⟩) (kk + 2) (kk + 2), .int .u64 0, .int .u64 0] w4 fun e w' => e = .returned (.int .u64 0) ∧ Arr w' bh 160 (put csx (kk + 2) (wds P)) ∧ w4.grownBy w' (some bh) := hmu.mono (by
          rintro e w' ⟨rfl, y1, y2, y3⟩
          exact ⟨rfl, y1, y2⟩)
        have HMU := Lib.hid hmu'
        have HX := Lib.hid (And.intro x2 (And.intro x3 (And.intro hPl (And.intro hPw (And.intro hP0 (And.intro hfit hlen))))))
        have HD0' := HD0
        clear d2 e2 hvl hv hvs l1 l2 l5 x1 x2 x3 hfit hlen hvrd hbwl hmu hmu' hm0 hcy hPl hPw hP0 hP c2 c3
        go_wp2_with fail
        (with_reducible refine HMU.out.mono ?_)
        rintro e w7 ⟨rfl, y1, y2⟩
        obtain ⟨x2, x3, hPl, hPw, hP0, hfit, hlen⟩ := HX.out
        obtain ⟨v0, d0⟩ := y1.get (j := kk + 2 + (kk + 2)) (by rw [put_length (by rw [wds_length]; omega)]; omega)
        have f0 := y1.free (kk + 2 + (kk + 2))
        obtain ⟨hqs, hus', hqh, huh⟩ := HD.out
        obtain ⟨w8, hw8⟩ : ∃ w8, w7.setCell ⟨bh, kk + 2 + (kk + 2), none⟩ (.int .u64 0) = w8 := ⟨_, rfl⟩
        have a8 : Arr w8 bh 160 (put csx (kk + 2) (wds (P ++ [0]))) := by
          rw [← hw8, wds_append]
          show Arr _ bh 160 (put csx (kk + 2) (wds P ++ [word 0]))
          rw [put_snoc (by rw [wds_length]; omega), wds_length, hPl]
          exact y1.set _ _
        have g8 : w4.grownBy w8 (some bh) := by rw [← hw8]; exact grown_trans y2 (grownBy_set _ _ _ _)
        have hd8 : DSt w2 w8 bq bu bh kk j csq csu csh us' [] := ⟨H34.out.u.other g8 (fun e => huh (by injection e)), H34.out.q.other g8 (fun e => hqh (by injection e)), ⟨_, a8, by rw [put_length (by rw [wds_length, List.length_append, hPl]; simp; omega)]; exact x2, fun i hi => by rw [put_get_lo (by omega) hi]; exact x3 i hi⟩, H34.out.o.of_grown g8 (.inr (.inr rfl))⟩
        have hpg : ∀ i y, P[i]? = some y → w8.drew.cell? ⟨bh, kk + 2 + i, none⟩ = some (word y) := fun i y hy => by
          have hil := (List.getElem?_eq_some_iff.1 hy).1
          exact a8.drew.cell (by rw [put_get_in (by omega) (by rw [wds_length, List.length_append]; simp; omega)]; exact wds_get (by rw [List.getElem?_append_left hil]; exact hy))
        have c9 : w8.cell? ⟨bh, kk + 2 + (kk + 2), none⟩ = some (.int .u64 0) := a8.cell (by rw [put_get_in (by omega) (by rw [wds_length, List.length_append, hPl]; simp)]; exact wds_get (by rw [List.getElem?_append_right (by omega), hPl]; simp))
        obtain ⟨d2, e2, hvl, hv, hvs, l1, l2, l5⟩ := HD0.out
        have hsl : ((us'.drop j).take (kk + 2)).length = kk + 2 := by rw [List.length_take, List.length_drop]; omega
        have hucs := HU.out.2.2.1
        have hucu := HU.out.2.2.2
        have hpl : (put csu 0 (wds us')).length = csu.length := put_length (by rw [wds_length]; omega)
        have hsub : Sub (put csu 0 (wds us')) j ((us'.drop j).take (kk + 2)) := by
          have := ((Sub.put_in (cs := csu) (off := 0) (xs := us') (by omega)).drop j).take (kk + 2)
          rwa [Nat.zero_add] at this
        have hsv := subVV_any bu j (cu - j) (cu - j) bh (kk + 2) (kk + 3) ((us'.drop j).take (kk + 2)) P 160 (put csu 0 (wds us')) w8.drew hd8.u.drew hsub hpg (Ne.symm huh) (by rw [hsl, hPl]) (by rw [hsl, hpl]; omega) (by rw [hsl]; omega) ((l2.drop j).take _) hPw
        have hsval := subL_val (xs := (us'.drop j).take (kk + 2)) (ys := P) (by rw [hsl, hPl]) ((l2.drop j).take _) hPw
        have hsll := subL_len (xs := (us'.drop j).take (kk + 2)) (ys := P) (by rw [hsl, hPl])
        have hsww := subL_ws ((us'.drop j).take (kk + 2)) P
        have hslt := val_lt hsww
        have hxlt := val_lt ((l2.drop j).take (kk + 2))
        rw [hP0, Nat.add_zero] at hsval
        have hb0 : (subL ((us'.drop j).take (kk + 2)) P).2 = 0 := by
          rcases Nat.eq_zero_or_pos (subL ((us'.drop j).take (kk + 2)) P).2 with g | g
          · exact g
          · have := Nat.mul_le_mul_left (WB ^ ((us'.drop j).take (kk + 2)).length) g
            rw [hsll] at hslt
            omega
        rw [hb0, Nat.mul_zero, Nat.add_zero] at hsval
        have hsame := val_inj hsww ((l2.drop j).take (kk + 2)) hsll hsval
        rw [hb0, hsame, hsl, put_self hsub (by rw [hsl, hpl]; omega)] at hsv
        have hsv' : Calls Tryz.prog 236 #[.slice (some ⟨bu, j, none⟩) (kk + 2) (cu - j), .slice (some ⟨bu, j, none⟩) (kk + 2) (cu - j), .slice (some ⟨bh, kk + 2, none⟩) (kk + 2) (kk + 3)] w8.drew fun e w' => e = .returned (.int .u64 0) ∧ Arr w' bu 160 (put csu 0 (wds us')) ∧ w8.drew.grownBy w' (some bu) := hsv.mono (by
          rintro e w' ⟨rfl, y1, y2, y3⟩
          exact ⟨rfl, y1, y2⟩)
        have HSV2 := Lib.hid hsv'
        have HD8 := Lib.hid hd8
        have s2 : (j : Int) + ((kk : Int) + 2) ≤ (j : Int) + ((kk : Int) + 2) := by omega
        have s3 : IntKind.i64.wrap ((j : Int) + ((kk : Int) + 2)) = (j : Int) + ((kk : Int) + 2) := by rw [IntKind.wrap_i64]; omega
        have s4 : (j : Int) + ((kk : Int) + 2) ≤ (cu : Int) := by have := HUS.out.1; omega
        have s5 : (j : Int) ≤ (j : Int) + ((kk : Int) + 2) := by omega
        have s6 : ((j : Int) + ((kk : Int) + 2)).toNat - j = kk + 2 := by omega
        have s7 : ¬ cu = j := by have := HUS.out.1; omega
        have s8 : (kk : Int) + 2 ≤ (kk : Int) + 3 := by omega
        have s9 : (0 : Int) ≤ (kk : Int) + 2 := by omega
        have s10 : ((kk : Int) + 2).toNat = kk + 2 := by omega
        have s11 : (kk : Int) + 3 - 1 = (kk : Int) + 2 := by omega
        have s12 : (j : Int) + ((kk : Int) + 2) < (j : Int) + ((kk : Int) + 3) := by omega
        clear hsv hsv' hsval hsll hsww hslt hxlt hb0 hsame hsub hpl hsl hd8 hpg a8 g8 y1 y2 x2 x3 hPl hPw hP0 hfit hlen hqs hus' hqh huh d2 e2 hvl hv hvs l1 l2 l5 hucs hucu
        go_wp2_with fail
        first
          | go_region_held3 (fun _ => True) (first | trivial)
              (first
                | (go_at_call 236; refine HSV2.out.mono ?_; rintro e w9 ⟨rfl, z1, z2⟩)
                | fail)
          | fail
        obtain ⟨d2, e2, hvl, hv, hvs, l1, l2, l5⟩ := HD0.out
        obtain ⟨hqs, hus', hqh, huh⟩ := HD.out
        obtain ⟨hne, hqw, huw, hBne, hBne2⟩ := HN.out
        have hd9 : DSt w2 w9 bq bu bh kk j csq csu csh us' [] := by
          obtain ⟨cs8, k1, k2, k3⟩ := (HD8.out.drewN 1).h
          exact ⟨z1, (HD8.out.drewN 1).q.other z2 (fun e => hne (by injection e)), ⟨cs8, k1.other z2 (fun e => huh (by injection e with e; exact e.symm)), k2, k3⟩, (HD8.out.drewN 1).o.of_grown z2 (.inr (.inl rfl))⟩
        have c9' := HCU.out w9 z1 _ _ HT0.out.1
        have Z1 := Lib.hid hd9
        have Z2 := Lib.hid (show us'.length = j + (kk + 2) ∧ Ws us' ∧ ([] : List Nat).length = j - min j j ∧ Ws [] ∧ DInv us' [] (val us') (val vs) (min j j) from ⟨l1, l2, by simp, Ws.nil, by rw [Nat.min_self]; exact l5⟩)
        have jj1 : ((j : Int) == (j : Int)) = true := by simp
        clear hd9 z1 z2 d2 e2 hvl hv hvs l1 l2 l5
        go_wp2_with fail
        go_roundw
        case rel =>
          refine ⟨j, t0, us', [], by omega, rfl, by go_num, Lib.hid (fun h => by omega), Lib.hid (fun _ => HT0.out.1), ?_, Z2⟩
          rw [Nat.min_self]; exact Z1
        case measure => simp [intOf] <;> omega
      · have hj : j < m := by omega
        have b1 : (0 : Int) ≤ (j : Int) := by omega
        rw [Nat.min_eq_left (by omega)] at H3 H4
        obtain ⟨l1, l2, l3, l4, l5⟩ := H4.out
        obtain ⟨hvs, hvl, e1, e2, hv1, hv, hv1B⟩ := HV.out
        have d0 := H2.out (by omega)
        obtain ⟨u1, d1⟩ : ∃ x, us'[j + kk + 1]? = some x := ⟨_, List.getElem?_eq_getElem (by omega)⟩
        obtain ⟨u2, d2⟩ : ∃ x, us'[j + kk]? = some x := ⟨_, List.getElem?_eq_getElem (by omega)⟩
        rw [show j + 1 + kk + 1 = j + kk + 2 by omega] at d0
        have hle : u0 ≤ v1 := top_le (n := kk + 1) hv hvl e1 (by rw [show j + 1 + (kk + 1) = j + kk + 2 by omega]; exact d0) l5.low
        have huB : ∀ (x i : Nat), us'[i]? = some x → x < WB := fun x i h => l2 x (List.mem_of_getElem? h)
        have hcu : ∀ (wr : World), Arr wr bu 160 (put csu 0 (wds us')) → ∀ (i x : Nat), us'[i]? = some x → wr.cell? ⟨bu, i, none⟩ = some (.int .u64 (x : Int)) := fun wr h i x hx => h.cell (by
          have := put_get_in (cs := csu) (vs := wds us') (off := 0) (i := i) (by omega) (by rw [wds_length]; exact (List.getElem?_eq_some_iff.1 hx).1)
          rw [Nat.zero_add] at this
          rw [this]; exact wds_get hx)
        have HCU := Lib.hid hcu
        have HDD := Lib.hid (And.intro d0 (And.intro d1 (And.intro d2 (And.intro hle huB))))
        clear l1 l2 l3 l4 l5 hvs hvl e1 e2 hv1 hv hv1B d0 d1 d2 hle huB hcu
        go_upto_if 51 with fail
        go_cut [15] from 45 to 200 (fun s wx => ∃ (q : Nat), s = .int .u64 (q : Int) ∧ Hid (Guess us' vs j q) ∧ Hid (DSt w2 wx bq bu bh kk (j + 1) csq csu csh us' qh))
        case first =>
          obtain ⟨l1, l2, l3, l4, l5⟩ := H4.out
          obtain ⟨hvs, hvl, e1, e2, hv1, hv, hv1B⟩ := HV.out
          obtain ⟨d0, d1, d2, hle, huB⟩ := HDD.out
          by_cases hu0 : u0 = v1
          · have hgs := Lib.hid (top_guess l5 l2 hv hvl (by omega) e1 e2 (by rw [d0, hu0]) hv1)
            have m1 : ((u0 : Int) == (v1 : Int)) = true := by simp [hu0]
            have m2 : ((u0 : Int) = (v1 : Int)) := by rw [hu0]
            clear l1 l2 l3 l4 l5 hvs hvl e1 e2 hv1 hv hv1B d0 d1 d2 hle huB
            go_wp2_with fail
            go_meet
            exact ⟨18446744073709551615, rfl, hgs, H3⟩
          · have m1 : ((u0 : Int) == (v1 : Int)) = false := by simp only [beq_eq_false_iff_ne, ne_eq]; omega
            have hx1 : u0 < v1 := by omega
            have hu1B := huB u1 _ d1
            have hu2B := huB u2 _ d2
            have hv2B := hv v2 (List.mem_of_getElem? e2)
            have c1 := HCU.out wr H3.out.u _ _ d1
            have i1 : (j : Int) + ((kk : Int) + 2) - 1 = ((j + kk + 1 : Nat) : Int) := by omega
            have hcd := fun w => divWW_any u0 u1 v1 rc hv1 hv1B hx1 hu1B HRC.out w
            obtain ⟨q0, hq0⟩ : ∃ q, q = (u0 * WB + u1) / v1 := ⟨_, rfl⟩
            obtain ⟨r0, hr0⟩ : ∃ q, q = (u0 * WB + u1) % v1 := ⟨_, rfl⟩
            rw [← hq0, ← hr0] at hcd
            have HCD := Lib.hid hcd
            have hq0B : q0 < WB := by rw [hq0]; exact divL_q hx1 hu1B
            have hr0v : r0 < v1 := by rw [hr0]; exact Nat.mod_lt _ (by omega)
            have hdm : q0 * v1 + r0 = u0 * WB + u1 := by rw [hq0, hr0, Nat.mul_comm]; exact Nat.div_add_mod _ _
            have hri := RInv.start (u2 := u2) hu2B hv2B hq0B hdm hr0v hv1B
            have hmw := fun w => mulWW_any q0 v2 hq0B hv2B w
            obtain ⟨xa, hxa⟩ : ∃ q, q = q0 * v2 / WB := ⟨_, rfl⟩
            obtain ⟨xb, hxb⟩ : ∃ q, q = q0 * v2 % WB := ⟨_, rfl⟩
            rw [← hxa, ← hxb] at hmw hri
            have hguess : ∀ q, q < WB → Fits3 v1 v2 u0 u1 u2 q → Guess us' vs j q := fun q hq hf => fits_guess l5 l2 hv hvl (by omega) e1 e2 d0 d1 d2 hv1 hq hf
            have HMW := Lib.hid hmw
            have HRI := Lib.hid hri
            have HGU := Lib.hid hguess
            have HB2 := Lib.hid (And.intro hu2B (And.intro hv2B (And.intro d2 (And.intro e2 hv1B))))
            clear hcd l1 l2 l3 l4 l5 hvs hvl e1 e2 hv1 hv hv1B d0 d1 d2 hle huB hq0 hr0 hq0B hr0v hdm hri hmw hxa hxb hguess hu2B hv2B hu1B hx1
            go_wp2_with fail
            (with_reducible refine (HCD.out _).mono ?_)
            rintro e w4 ⟨rfl, kq2, hw4⟩
            have hd4 : DSt w2 w4 bq bu bh kk (j + 1) csq csu csh us' qh := by rw [hw4]; exact H3.out.drewN _
            have c2 : w4.cell? ⟨bw, kk, none⟩ = some (.int .u64 (v2 : Int)) := HVR.out w4 hd4.h hd4.o kk v2 HB2.out.2.2.2.1
            have c3 := HCU.out w4 hd4.u _ _ HB2.out.2.2.1
            have i2 : (j : Int) + ((kk : Int) + 2) - 2 = ((j + kk : Nat) : Int) := by omega
            have i3 : (kk : Int) + 2 - 2 = (kk : Int) := by omega
            have H34 := Lib.hid hd4
            clear hw4 hd4 c1
            go_wp2_with fail
            (with_reducible refine (HMW.out _).mono ?_)
            rintro e w5 ⟨rfl, rfl⟩
            go_wp2_with fail
            go_loopw [15, 16, 18, 19] (fun a b c d wx => ∃ (q rh x1 x2 : Nat), a = .int .u64 (q : Int) ∧ b = .int .u64 (rh : Int) ∧ c = .int .u64 (x1 : Int) ∧ d = .int .u64 (x2 : Int) ∧ Hid (RInv v1 v2 u0 u1 u2 q rh x1 x2) ∧ wx = w4) (fun a _ _ _ _ => (intOf a).toNat)
            case atStart => exact ⟨q0, r0, xa, xb, rfl, rfl, rfl, rfl, HRI, rfl⟩
            case round =>
              obtain ⟨q, rh, x1, x2, rfl, rfl, rfl, rfl, J1, rfl⟩ := hrel
              obtain ⟨hu2B, hv2B, d2, e2, hv1B⟩ := HB2.out
              have hgr := fun w => greater_any x1 x2 rh u2 w
              by_cases ht : rh < x1 ∨ (x1 = rh ∧ u2 < x2)
              · obtain ⟨s1, s2, s3⟩ := J1.out.step hu2B hv2B ht
                simp only [decide_eq_true ht] at hgr
                have HGR := Lib.hid hgr
                obtain ⟨p, rfl⟩ : ∃ p, q = p + 1 := ⟨q - 1, by omega⟩
                have hql := J1.out.ql
                have hrl := J1.out.lt
                have hxl := J1.out.xl
                rw [Nat.add_sub_cancel] at s2 s3
                have w1 : IntKind.u64.wrap (p : Int) = (p : Int) := by rw [IntKind.wrap_u64]; unfold WB at hql; omega
                by_cases hov : WB ≤ rh + v1
                · have hgs := Lib.hid (HGU.out p (by omega) (s2 hov))
                  obtain ⟨r1, hr1⟩ : ∃ r1, r1 = rh + v1 - WB := ⟨_, rfl⟩
                  have w2 : IntKind.u64.wrap ((rh : Int) + (v1 : Int)) = (r1 : Int) := by rw [IntKind.wrap_u64]; unfold WB at *; omega
                  have hlt : r1 < v1 := by omega
                  clear hgr ht s1 s2 s3 hu2B hv2B d2 e2 hv1B hql hrl hxl hov hr1
                  go_wp2_with fail
                  (with_reducible refine (HGR.out _).mono ?_)
                  rintro e w6 ⟨rfl, rfl⟩
                  go_wp2_with fail
                  go_meet
                  exact ⟨p, rfl, hgs, H34⟩
                · obtain ⟨t1, t2⟩ := s3 (by omega)
                  obtain ⟨r1, hr1⟩ : ∃ r1, r1 = rh + v1 := ⟨_, rfl⟩
                  have w2 : IntKind.u64.wrap ((rh : Int) + (v1 : Int)) = (r1 : Int) := by rw [IntKind.wrap_u64]; unfold WB at *; omega
                  have hlt : ¬ r1 < v1 := by omega
                  rw [← hr1] at t1 t2
                  by_cases hx : x2 < v2
                  · obtain ⟨g1, g2⟩ := t2 hx
                    obtain ⟨y1, hy1⟩ : ∃ y1, y1 = x1 - 1 := ⟨_, rfl⟩
                    obtain ⟨y2, hy2⟩ : ∃ y2, y2 = x2 + WB - v2 := ⟨_, rfl⟩
                    have w3 : IntKind.u64.wrap ((x1 : Int) - 1) = (y1 : Int) := by rw [IntKind.wrap_u64]; unfold WB at *; omega
                    have w4' : IntKind.u64.wrap ((x2 : Int) - (v2 : Int)) = (y2 : Int) := by rw [IntKind.wrap_u64]; unfold WB at *; omega
                    rw [← hy1, ← hy2] at g2
                    have G2 := Lib.hid g2
                    clear hgr ht s1 s2 s3 hu2B hv2B d2 e2 hv1B hql hrl hxl hov hr1 t1 t2 g1 g2 hy1 hy2
                    go_wp2_with fail
                    (with_reducible refine (HGR.out _).mono ?_)
                    rintro e w6 ⟨rfl, rfl⟩
                    go_wp2_with fail
                    go_roundw
                    case rel => exact ⟨p, r1, y1, y2, rfl, rfl, rfl, rfl, G2, trivial⟩
                    case measure => simp [intOf] <;> omega
                  · have g2 := t1 (by omega)
                    obtain ⟨y2, hy2⟩ : ∃ y2, y2 = x2 - v2 := ⟨_, rfl⟩
                    have w4' : IntKind.u64.wrap ((x2 : Int) - (v2 : Int)) = (y2 : Int) := by rw [IntKind.wrap_u64]; unfold WB at *; omega
                    rw [← hy2] at g2
                    have G2 := Lib.hid g2
                    clear hgr ht s1 s2 s3 hu2B hv2B d2 e2 hv1B hql hrl hxl hov hr1 t1 t2 g2 hy2
                    go_wp2_with fail
                    (with_reducible refine (HGR.out _).mono ?_)
                    rintro e w6 ⟨rfl, rfl⟩
                    go_wp2_with fail
                    go_roundw
                    case rel => exact ⟨p, r1, x1, y2, rfl, rfl, rfl, rfl, G2, trivial⟩
                    case measure => simp [intOf] <;> omega
              · have hf := J1.out.fits hu2B ht
                have hgs := Lib.hid (HGU.out q J1.out.ql hf)
                simp only [decide_eq_false ht] at hgr
                have HGR := Lib.hid hgr
                clear hgr ht hf hu2B hv2B d2 e2 hv1B
                go_wp2_with fail
                (with_reducible refine (HGR.out _).mono ?_)
                rintro e w6 ⟨rfl, rfl⟩
                go_wp2_with fail
                go_meet
                exact ⟨q, rfl, hgs, H34⟩
        case rest =>
          obtain ⟨q, rfl, HGs, H6⟩ := hcut
          obtain ⟨l1, l2, l3, l4, l5⟩ := H4.out
          obtain ⟨hvs, hvl, e1, e2, hv1, hv, hv1B⟩ := HV.out
          obtain ⟨hqs, hus', hqh, huh⟩ := HD.out
          obtain ⟨hne, hqw, huw, hBne, hBne2⟩ := HN.out
          obtain ⟨csx, x1, x2, x3⟩ := H6.out.h
          have hfit := HG.out.1.fit
          have hlen := HG.out.1.len
          have hvrd := HVR.out wc H6.out.h H6.out.o
          have hbwl : bw < wc.heap.size := by
            obtain ⟨y0, hy0⟩ : ∃ y, vs[0]? = some y := ⟨_, List.getElem?_eq_getElem (by omega)⟩
            exact World.block_lt_of_cell? wc _ (hvrd 0 y0 hy0)
          have hmu := mulAddVWW_D bh (kk + 2) (kk + 3) bw 0 (kk + 2) vs q 0 160 csx wc x1 ⟨fun i y hy => by rw [Nat.zero_add]; exact hvrd i y hy, .inr (by omega), hbwl⟩ (by omega) (by omega) hv HGs.out.2.2 WB_pos
          rw [hvl, show ((0 : Nat) : Int) = (0 : Int) from rfl] at hmu
          obtain ⟨D, hD⟩ : ∃ D, D = subL ((us'.drop j).take (kk + 2 + 1)) ((mulAddL q 0 vs).1 ++ [(mulAddL q 0 vs).2]) := ⟨_, rfl⟩
          obtain ⟨m1, m2, m3, m4, m5⟩ := div_round l5 l2 hv hvl (by omega) HGs.out.1 HGs.out.2.1 HGs.out.2.2 hD
          have hPl : (mulAddL q 0 vs).1.length = kk + 2 := by rw [mulAddL_len, hvl]
          have hPw := mulAddL_ws HGs.out.2.2 hv 0 WB_pos
          obtain ⟨P, hP⟩ : ∃ P, P = (mulAddL q 0 vs).1 := ⟨_, rfl⟩
          obtain ⟨cy, hcy⟩ : ∃ P, P = (mulAddL q 0 vs).2 := ⟨_, rfl⟩
          rw [← hP, ← hcy] at hmu hD hPw
          rw [← hP] at hPl
          have HMU := Lib.hid hmu
          have hcx : ∀ wr : World, Arr wr bh 160 (put csx (kk + 2) (wds P)) → ∃ v, wr.cell? ⟨bh, kk + 2 + (kk + 2), none⟩ = some v := fun wr h => h.get (by rw [put_length (by rw [wds_length]; omega)]; omega)
          have HCX := Lib.hid hcx
          have RD := Lib.hid (And.intro hD (And.intro m1 (And.intro m2 (And.intro m3 (And.intro m4 m5)))))
          have HX := Lib.hid (And.intro x2 (And.intro x3 (And.intro hPl (And.intro hPw (And.intro hfit hlen)))))
          clear l1 l2 l3 l4 l5 hvs hvl e1 e2 hv1 hv hv1B hqs hus' hqh huh hne hqw huw hBne hBne2 x1 x2 x3 hfit hlen hvrd hbwl hmu hD m1 m2 m3 m4 m5 hPl hPw hP hcy hcx
          go_wp2_with fail
          (with_reducible refine HMU.out.mono ?_)
          rintro e w7 ⟨rfl, y1, y2, y3⟩
          obtain ⟨v0, d0⟩ := HCX.out w7 y1
          have f0 := y1.free (kk + 2 + (kk + 2))
          obtain ⟨x2, x3, hPl, hPw, hfit, hlen⟩ := HX.out
          obtain ⟨hqs, hus', hqh, huh⟩ := HD.out
          obtain ⟨l1, l2, l3, l4, l5⟩ := H4.out
          obtain ⟨w8, hw8⟩ : ∃ w8, w7.setCell ⟨bh, kk + 2 + (kk + 2), none⟩ (.int .u64 (cy : Int)) = w8 := ⟨_, rfl⟩
          have a8 : Arr w8 bh 160 (put csx (kk + 2) (wds (P ++ [cy]))) := by
            rw [← hw8, wds_append]
            show Arr _ bh 160 (put csx (kk + 2) (wds P ++ [word cy]))
            rw [put_snoc (by rw [wds_length]; omega), wds_length, hPl]
            exact y1.set _ _
          have g8 : wc.grownBy w8 (some bh) := by rw [← hw8]; exact grown_trans y2 (grownBy_set _ _ _ _)
          have hd8 : DSt w2 w8 bq bu bh kk (j + 1) csq csu csh us' qh := ⟨H6.out.u.other g8 (fun e => huh (by injection e)), H6.out.q.other g8 (fun e => hqh (by injection e)), ⟨_, a8, by rw [put_length (by rw [wds_length, List.length_append, hPl]; simp; omega)]; exact x2, fun i hi => by rw [put_get_lo (by omega) hi]; exact x3 i hi⟩, H6.out.o.of_grown g8 (.inr (.inr rfl))⟩
          have hsl : ((us'.drop j).take (kk + 2 + 1)).length = kk + 3 := by rw [List.length_take, List.length_drop]; omega
          have hpl : (put csu 0 (wds us')).length = csu.length := put_length (by rw [wds_length]; have := HU.out.2.2.1; have := HUS.out.1; omega)
          have hcul : us'.length ≤ csu.length := by have := HU.out.2.2.1; have := HUS.out.1; omega
          have hsub : Sub (put csu 0 (wds us')) j ((us'.drop j).take (kk + 2 + 1)) := by
            have := ((Sub.put_in (cs := csu) (off := 0) (xs := us') (by omega)).drop j).take (kk + 2 + 1)
            rwa [Nat.zero_add] at this
          have hsv := subVV_any bu j (cu - j) (cu - j) bh (kk + 2) (kk + 3) ((us'.drop j).take (kk + 2 + 1)) (P ++ [cy]) 160 (put csu 0 (wds us')) w8.drew hd8.u.drew hsub (fun i y hy => by
            have hil : i < kk + 3 := by have := (List.getElem?_eq_some_iff.1 hy).1; rw [List.length_append, hPl] at this; simp at this; omega
            exact a8.drew.cell (by rw [put_get_in (by omega) (by rw [wds_length, List.length_append, hPl]; simp; omega)]; exact wds_get hy)) (Ne.symm huh) (by rw [hsl, List.length_append, hPl]; simp) (by rw [hsl, hpl]; omega) (by rw [hsl]; omega) ((l2.drop j).take _) (hPw.1.append (Ws.mk hPw.2 Ws.nil))
          obtain ⟨r1, r2, r3, r4, r5, r6⟩ := RD.out
          have hpu : put (put csu 0 (wds us')) j (wds D.1) = put csu 0 (wds (upd us' j D.1)) := by
            have := put_wds_upd (cs := csu) (zl := us') (A := D.1) (off := 0) (j := j) (by omega) (by omega)
            rwa [Nat.zero_add] at this
          rw [← r1, hsl, hpu] at hsv
          obtain ⟨uu, huu⟩ : ∃ uu, uu = upd us' j D.1 := ⟨_, rfl⟩
          rw [← huu] at hsv
          have HSV2 := Lib.hid hsv
          have HD8 := Lib.hid hd8
          have HUU := Lib.hid huu
          obtain ⟨b, hb⟩ : ∃ b, b = D.2 := ⟨_, rfl⟩
          rw [← hb] at HSV2
          have HBE := Lib.hid hb
          have s1 : (m : Int) + ((kk : Int) + 2) < (j : Int) + ((kk : Int) + 3) → False := fun h => by omega
          have s2 : (j : Int) + ((kk : Int) + 3) ≤ (m : Int) + ((kk : Int) + 2) := by omega
          have s3 : IntKind.i64.wrap ((j : Int) + ((kk : Int) + 3)) = (j : Int) + ((kk : Int) + 3) := by rw [IntKind.wrap_i64]; omega
          have s4 : (j : Int) + ((kk : Int) + 3) ≤ (cu : Int) := by have := HU.out.2.2.2; have := HUS.out.1; omega
          have s5 : (j : Int) ≤ (j : Int) + ((kk : Int) + 3) := by omega
          have s6 : ((j : Int) + ((kk : Int) + 3)).toNat - j = kk + 3 := by omega
          have s7 : ¬ cu = j := by have := HU.out.2.2.2; have := HUS.out.1; omega
          have s8 : (kk : Int) + 3 ≤ (kk : Int) + 3 := by omega
          have s9 : (0 : Int) ≤ (kk : Int) + 3 := by omega
          have s10 : ((kk : Int) + 3).toNat = kk + 3 := by omega
          clear r1 r2 r3 r4 r5 r6 hpu hsv hsub hpl hsl hcul hd8 a8 g8 y1 y2 y3 x2 x3 hPl hPw hfit hlen hqs hus' hqh huh l1 l2 l3 l4 l5 huu hb
          go_wp2_with fail
          first
            | go_region_held3 (fun _ => True) (first | trivial)
                (first
                  | (go_at_call 236; refine HSV2.out.mono ?_; rintro e w9 ⟨rfl, z1, z2, z3⟩)
                  | fail)
            | fail
          obtain ⟨r1, r2, r3, r4, r5, r6⟩ := RD.out
          obtain ⟨hqs, hus', hqh, huh⟩ := HD.out
          obtain ⟨hne, hqw, huw, hBne, hBne2⟩ := HN.out
          obtain ⟨l1, l2, l3, l4, l5⟩ := H4.out
          have hucs := HU.out.2.2.1
          have husl := HUS.out.1
          have hd8 := HD8.out.drewN 1
          have hd9 : DSt w2 w9 bq bu bh kk (j + 1) csq csu csh uu qh := by
            obtain ⟨cs8, k1, k2, k3⟩ := hd8.h
            exact ⟨z1, hd8.q.other z2 (fun e => hne (by injection e)), ⟨cs8, k1.other z2 (fun e => huh (by injection e with e; exact e.symm)), k2, k3⟩, hd8.o.of_grown z2 (.inr (.inl rfl))⟩
          have huul : uu.length = m + (kk + 2) := by rw [HUU.out, upd_len (by omega)]; exact l1
          have huuw : Ws uu := by rw [HUU.out]; exact l2.upd r3 j
          have HD9 := Lib.hid hd9
          clear hd8 hd9 z1 z2 z3
          have t1 : (j : Int) + ((kk : Int) + 2) - 1 = ((j + kk + 1 : Nat) : Int) := by omega
          have hjm' : ((j : Int) == (m : Int)) = false := by simp only [beq_eq_false_iff_ne, ne_eq]; omega
          have hqhl : j + 1 + qh.length = m := by omega
          have hqlen := HQ.out.2
          have t2 : (j : Int) < (m : Int) := by omega
          by_cases hb0 : b = 0
          · have hdi := r5 (by rw [← HBE.out]; exact hb0)
            rw [← HUU.out] at hdi
            subst hb0
            obtain ⟨ux, hux⟩ : ∃ x, uu[j + kk + 1]? = some x := ⟨_, List.getElem?_eq_getElem (by omega)⟩
            have hcell : w9.cell? ⟨bu, j + kk + 1, none⟩ = some (.int .u64 (ux : Int)) := HD9.out.u.cell (by
              have := put_get_in (cs := csu) (vs := wds uu) (off := 0) (i := j + kk + 1) (by omega) (by rw [wds_length]; omega)
              rw [Nat.zero_add] at this
              rw [this]; exact wds_get hux)
            have hqpl : (put csq (j + 1) (wds qh)).length = csq.length := put_length (by rw [wds_length]; omega)
            obtain ⟨vq, hcq⟩ := HD9.out.q.get (j := j) (by omega)
            have hfq := HD9.out.q.free j
            obtain ⟨wz, hwz⟩ : ∃ wz, w9.setCell ⟨bq, j, none⟩ (.int .u64 (q : Int)) = wz := ⟨_, rfl⟩
            have hdz : DSt w2 wz bq bu bh kk j csq csu csh uu (q :: qh) := by
              obtain ⟨cs9, k1, k2, k3⟩ := HD9.out.h
              rw [← hwz]
              refine ⟨HD9.out.u.setOther (Ne.symm hne) _, ?_, ⟨cs9, k1.setOther (Ne.symm hqh) _, k2, k3⟩, HD9.out.o.set (.inl rfl) _ _⟩
              have := HD9.out.q.set j (word q)
              rw [← put_cons (by rw [wds_length]; omega)] at this
              exact this
            have hqB := HGs.out.2.2
            have hqw' : Ws (q :: qh) := Ws.mk hqB l4
            have Z1 := Lib.hid hdz
            have Z2 := Lib.hid (show uu.length = m + (kk + 2) ∧ Ws uu ∧ (q :: qh).length = m - min j m ∧ Ws (q :: qh) ∧ DInv uu (q :: qh) (val us) (val vs) (min j m) from ⟨huul, huuw, by rw [Nat.min_eq_left (by omega), List.length_cons]; omega, hqw', by rw [Nat.min_eq_left (by omega)]; exact hdi⟩)
            have Z3 := Lib.hid hux
            clear hdz hqB hqw' hdi hux hqpl r1 r2 r3 r4 r5 r6 l1 l2 l3 l4 l5 huul huuw
            go_wp2_with fail
            go_roundw
            case rel =>
              refine ⟨j, ux, uu, q :: qh, by omega, rfl, by go_num, Lib.hid (fun h => by omega), Lib.hid (fun _ => Z3.out), ?_, Z2⟩
              rw [Nat.min_eq_left (by omega)]; exact Z1
            case measure => simp [intOf] <;> omega
          · have hbn : ((b : Int) == 0) = false := by simp only [beq_eq_false_iff_ne, ne_eq]; omega
            obtain ⟨A, hA⟩ : ∃ A, A = addL (D.1.take (kk + 2)) vs := ⟨_, rfl⟩
            obtain ⟨m1, m2, m3, m4, m5, m6⟩ := r6 (by rw [← HBE.out]; exact hb0) A hA
            obtain ⟨hvs, hvl, e1, e2, hv1, hv, hv1B⟩ := HV.out
            have hsl : (D.1.take (kk + 2)).length = kk + 2 := by rw [List.length_take]; omega
            have hpl : (put csu 0 (wds uu)).length = csu.length := put_length (by rw [wds_length]; omega)
            have hsub : Sub (put csu 0 (wds uu)) j (D.1.take (kk + 2)) := by
              intro i x hx
              have hi := (List.getElem?_eq_some_iff.1 hx).1
              rw [List.getElem?_take_of_lt (by omega)] at hx
              have := put_get_in (cs := csu) (vs := wds uu) (off := 0) (i := j + i) (by omega) (by rw [wds_length]; omega)
              rw [Nat.zero_add] at this
              rw [this]
              exact wds_get (by rw [HUU.out, upd_get_in (by omega) (by omega)]; exact hx)
            have hvr9 := HVR.out (w9.drew) (HD9.out.drewN 1).h (HD9.out.drewN 1).o
            have hav := addVV_any bu j (cu - j) (cu - j) bw 0 (kk + 2) (D.1.take (kk + 2)) vs 160 (put csu 0 (wds uu)) w9.drew HD9.out.u.drew hsub (fun i y hy => by rw [Nat.zero_add]; exact hvr9 i y hy) (Ne.symm huw) (by rw [hsl, hvl]) (by rw [hsl, hpl]; omega) (by rw [hsl]; omega) (r3.take _) hv
            have hpu : put (put csu 0 (wds uu)) j (wds A.1) = put csu 0 (wds (upd uu j A.1)) := by
              have := put_wds_upd (cs := csu) (zl := uu) (A := A.1) (off := 0) (j := j) (by omega) (by omega)
              rwa [Nat.zero_add] at this
            rw [← hA, hsl, hpu] at hav
            obtain ⟨u3, hu3⟩ : ∃ u3, u3 = upd uu j A.1 := ⟨_, rfl⟩
            rw [← hu3] at hav
            obtain ⟨a2, ha2⟩ : ∃ a2, a2 = A.2 := ⟨_, rfl⟩
            obtain ⟨tp, htp⟩ : ∃ tp, D.1[kk + 2]? = some tp := ⟨_, List.getElem?_eq_getElem (by omega)⟩
            have htpB := r3 tp (List.mem_of_getElem? htp)
            have hu3l : u3.length = m + (kk + 2) := by rw [hu3, upd_len (by omega)]; exact huul
            have htop : u3[j + (kk + 2)]? = some tp := by
              rw [hu3, upd_get_hi (by omega) (by omega), HUU.out, upd_get_in (by omega) (by omega)]; exact htp
            have hsum : IntKind.u64.wrap ((tp : Int) + (a2 : Int)) = 0 := by
              rw [List.getD_eq_getElem?_getD, htp, Option.getD_some, ← ha2] at m5
              rw [IntKind.wrap_u64]; unfold WB at m5; omega
            rw [← ha2] at hav
            have HAV := Lib.hid hav
            have hct : ∀ wr : World, Arr wr bu 160 (put csu 0 (wds u3)) → wr.cell? ⟨bu, j + (kk + 2), none⟩ = some (.int .u64 (tp : Int)) := fun wr h => h.cell (by
              have := put_get_in (cs := csu) (vs := wds u3) (off := 0) (i := j + (kk + 2)) (by omega) (by rw [wds_length]; omega)
              rw [Nat.zero_add] at this
              rw [this]; exact wds_get htop)
            have HCT := Lib.hid hct
            have hst3 : (put csu 0 (wds u3)).set (j + (kk + 2)) (word 0) = put csu 0 (wds (u3.set (j + (kk + 2)) 0)) := by
              have := set_wds_upd (cs := csu) (zl := u3) (off := 0) (j := j + (kk + 2)) (x := 0) (by omega) (by omega)
              rwa [Nat.zero_add] at this
            have HST3 := Lib.hid hst3
            rw [← HUU.out, ← hu3] at m6
            have hu3w : Ws (u3.set (j + (kk + 2)) 0) := Ws.set (by rw [hu3]; exact huuw.upd m2 j) WB_pos
            obtain ⟨ux, hux⟩ : ∃ x, (u3.set (j + (kk + 2)) 0)[j + kk + 1]? = some x := ⟨_, List.getElem?_eq_getElem (by rw [List.length_set]; omega)⟩
            have hdi := m6
            obtain ⟨p, rfl⟩ : ∃ p, q = p + 1 := ⟨q - 1, by omega⟩
            have hpB := HGs.out.2.2
            have wq : IntKind.u64.wrap (p : Int) = (p : Int) := by rw [IntKind.wrap_u64]; unfold WB at hpB; omega
            rw [Nat.add_sub_cancel] at hdi
            have v1' : (j : Int) + ((kk : Int) + 2) ≤ (cu : Int) := by have := HU.out.2.2.2; omega
            have v2' : IntKind.i64.wrap ((j : Int) + ((kk : Int) + 2)) = (j : Int) + ((kk : Int) + 2) := by rw [IntKind.wrap_i64]; omega
            have v3' : (j : Int) ≤ (j : Int) + ((kk : Int) + 2) := by omega
            have v4' : ((j : Int) + ((kk : Int) + 2)).toNat - j = kk + 2 := by omega
            have v5' : ((j : Int) + ((kk : Int) + 2)).toNat = j + (kk + 2) := by omega
            have v6' : (j : Int) + ((kk : Int) + 2) < (m : Int) + ((kk : Int) + 2) := by omega
            have v7' : (0 : Int) ≤ (j : Int) + ((kk : Int) + 2) := by omega
            clear r1 r2 r3 r4 r5 r6 hav hA hpu hu3 ha2 htp htop m1 m2 m3 m4 m5 m6 hsub hpl hsl hvr9 hvs hvl e1 e2 hv1 hv hv1B hct hst3 htpB hpB
            go_wp2_with fail
            first
              | go_region_held3 (fun _ => True) (first | trivial)
                  (first
                    | (go_at_call 195; refine HAV.out.mono ?_; rintro e w10 ⟨rfl, z1, z2, z3⟩)
                    | fail)
              | fail
            have hct := HCT.out w10 z1
            have hft := z1.free (j + (kk + 2))
            obtain ⟨w11, hw11⟩ : ∃ w11, w10.setCell ⟨bu, j + (kk + 2), none⟩ (.int .u64 0) = w11 := ⟨_, rfl⟩
            have g11 : w9.drew.grownBy w11 (some bu) := by rw [← hw11]; exact grown_trans z2 (grownBy_set _ _ _ _)
            have hd11 : DSt w2 w11 bq bu bh kk (j + 1) csq csu csh (u3.set (j + (kk + 2)) 0) qh := by
              obtain ⟨cs8, k1, k2, k3⟩ := (HD9.out.drewN 1).h
              refine ⟨?_, (HD9.out.drewN 1).q.other g11 (fun e => hne (by injection e)), ⟨cs8, k1.other g11 (fun e => huh (by injection e with e; exact e.symm)), k2, k3⟩, (HD9.out.drewN 1).o.of_grown g11 (.inr (.inl rfl))⟩
              rw [← HST3.out, ← hw11]
              exact z1.set _ _
            have HD11 := Lib.hid hd11
            clear hd11 g11 z1 z2 z3
            have hcell : w11.cell? ⟨bu, j + kk + 1, none⟩ = some (.int .u64 (ux : Int)) := HD11.out.u.cell (by
              have := put_get_in (cs := csu) (vs := wds (u3.set (j + (kk + 2)) 0)) (off := 0) (i := j + kk + 1) (by omega) (by rw [wds_length, List.length_set]; omega)
              rw [Nat.zero_add] at this
              rw [this]; exact wds_get hux)
            have hqpl : (put csq (j + 1) (wds qh)).length = csq.length := put_length (by rw [wds_length]; omega)
            obtain ⟨vq, hcq⟩ := HD11.out.q.get (j := j) (by omega)
            have hfq := HD11.out.q.free j
            obtain ⟨wz, hwz⟩ : ∃ wz, w11.setCell ⟨bq, j, none⟩ (.int .u64 (p : Int)) = wz := ⟨_, rfl⟩
            have hdz : DSt w2 wz bq bu bh kk j csq csu csh (u3.set (j + (kk + 2)) 0) (p :: qh) := by
              obtain ⟨cs9, k1, k2, k3⟩ := HD11.out.h
              rw [← hwz]
              refine ⟨HD11.out.u.setOther (Ne.symm hne) _, ?_, ⟨cs9, k1.setOther (Ne.symm hqh) _, k2, k3⟩, HD11.out.o.set (.inl rfl) _ _⟩
              have := HD11.out.q.set j (word p)
              rw [← put_cons (by rw [wds_length]; omega)] at this
              exact this
            have hqB : p < WB := by have := HGs.out.2.2; omega
            have hqw' : Ws (p :: qh) := Ws.mk hqB l4
            have Z1 := Lib.hid hdz
            have Z2 := Lib.hid (show (u3.set (j + (kk + 2)) 0).length = m + (kk + 2) ∧ Ws (u3.set (j + (kk + 2)) 0) ∧ (p :: qh).length = m - min j m ∧ Ws (p :: qh) ∧ DInv (u3.set (j + (kk + 2)) 0) (p :: qh) (val us) (val vs) (min j m) from ⟨by rw [List.length_set]; exact hu3l, hu3w, by rw [Nat.min_eq_left (by omega), List.length_cons]; omega, hqw', by rw [Nat.min_eq_left (by omega)]; exact hdi⟩)
            have Z3 := Lib.hid hux
            clear hdz hqB hqw' hdi hux hqpl l1 l2 l3 l4 l5 huul huuw hu3l hu3w
            go_wp2_with fail
            go_roundw
            case rel =>
              refine ⟨j, ux, u3.set (j + (kk + 2)) 0, p :: qh, by omega, rfl, by go_num, Lib.hid (fun h => by omega), Lib.hid (fun _ => Z3.out), ?_, Z2⟩
              rw [Nat.min_eq_left (by omega)]; exact Z1
            case measure => simp [intOf] <;> omega
end Go.Proofs.Tz
