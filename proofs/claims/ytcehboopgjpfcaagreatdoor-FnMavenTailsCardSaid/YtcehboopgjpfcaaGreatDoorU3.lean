/- Squares, powers and the long division by the divisors of the table. -/
import Derived.Test.YtcehboopgjpfcaaGreatDoorU2
import Derived.Test.YtcehboopgjpfcaaGreatDoorU1
import Derived.Test.YtcehboopgjpfcaaGreatDoorCA
import Derived.Test.YtcehboopgjpfcaaGreatDoorAA
import Derived.Test.YtcehboopgjpfcaaGreatDoorF2
import Derived.StillTailTactics
import Derived.Deep.RegionHeld3
/- Contract of nat.expWW at 10^19 and 8. -/
namespace Go.Proofs.Tz
open Go.RowKit Mv

theorem Hold.grown {w w' : World} {b c : Nat} {ws : List Nat} (h : Hold w b c ws) {row : Option Nat} (hg : w.grownBy w' row) (hne : row ≠ some b) : Hold w' b c ws := h.keep (hg.block b h.lt (Ne.symm hne))
theorem below_grown {B : Nat} {a b : World} {row : Option Nat} (h : a.grownBy b row) (hr : ∀ k, row = some k → B ≤ k) (hB : B ≤ a.heap.size) : Below B a b :=
  ⟨h.os, h.tape, h.output, h.size, fun k hk => h.block k (by omega) (fun e => by have := hr k e.symm; omega)⟩
theorem below_drewN (B : Nat) (w : World) (k : Nat) : Below B w (w.drewN k) := ⟨rfl, rfl, rfl, Nat.le_refl _, fun _ _ => rfl⟩

theorem set_hold (bx cx n : Nat) (xs : List Nat) (w : World) (hX : Hold w bx cx xs) (hn : xs.length = n) (h0 : 0 < n) (hl : n ≤ 100) :
    Calls Tryz.prog 121 #[.slice none 0 0, .slice (some ⟨bx, 0, none⟩) n cx] w fun e w' => ∃ b c, e = .returned (.slice (some ⟨b, 0, none⟩) n c) ∧ Hold w' b c xs ∧ w.heap.size ≤ b ∧ Below w.heap.size w w' := by
  obtain ⟨cs, h1, h2, h3, h4, h5⟩ := hX
  subst hn
  refine (set_new bx cx xs cs w h1 h4 (by omega) (by omega) (by omega)).mono ?_
  rintro e w' ⟨c', g1, g2, rfl, g3, g4⟩
  refine ⟨w.heap.size, c', rfl, ⟨_, g3, ?_, g1, Sub.put_in (by omega), by omega⟩, Nat.le_refl _, g4⟩
  rw [put_length (by rw [wds_length, zs_length]; omega), zs_length]

theorem len19 {ps : List Nat} {k e : Nat} (hw : Ws ps) (hn : Nrm ps) (hv : val ps = 10 ^ e) (h1 : WB ^ k ≤ 10 ^ e) (h2 : 10 ^ e < WB ^ (k + 1)) : ps.length = k + 1 :=
  len_of_bounds hw hn (by rw [hv]; exact h1) (by rw [hv]; exact h2)

set_option maxHeartbeats 4000000 in
set_option maxRecDepth 100000 in
theorem expNN_8 (stb bx cx b2 cy : Nat) (w : World) (c13 : w.cell? ⟨13, 0, none⟩ = some (.int .i64 12)) (c14 : w.cell? ⟨14, 0, none⟩ = some (.int .i64 80)) (hX : Hold w bx cx [Y19]) (hY : Hold w b2 cy [8]) :
    Calls Tryz.prog 165 #[.slice none 0 0, .pointer (some ⟨stb, 0, none⟩), .slice (some ⟨bx, 0, none⟩) 1 cx, .slice (some ⟨b2, 0, none⟩) 1 cy, .slice none 0 0, .bool false] w fun e w' =>
      ∃ b c ps, e = .returned (.slice (some ⟨b, 0, none⟩) ps.length c) ∧ Hold w' b c ps ∧ Ws ps ∧ Nrm ps ∧ val ps = 10 ^ 152 ∧ w.heap.size ≤ b ∧ Below w.heap.size w w' := by
  have cx0 : w.cell? ⟨bx, 0, none⟩ = some (.int .u64 10000000000000000000) := hX.cell rfl
  have cy0 : w.cell? ⟨b2, 0, none⟩ = some (.int .u64 8) := hY.cell rfl
  have HX := Lib.hid hX
  have HC := Lib.hid (And.intro c13 (And.intro c14 (And.intro cx0 cy0)))
  have HAL := Lib.hid (fun a l c w => alias_nil a l c w)
  have a1 : bits BinOp.and IntKind.u64 0 9223372036854775808 = 0 := by decide
  have a2 : IntKind.u64.wrap 18446744073709551616 = 0 := by decide
  have hnl : ∀ w : World, Calls Tryz.prog 187 #[.int .u64 8] w fun e w' => e = .returned (.int .u64 60) ∧ w = w' := fun w => nlz_any 8 (by unfold WB; omega) w 60 (by decide)
  have HNL := Lib.hid hnl
  clear hX hY c13 c14 cx0 cy0 hnl
  go_enter_defers Tryz.func165, Tryz.ntmps165
  go_wp2_with fail
  (with_reducible refine (HAL.out _ _ _ _).mono ?_)
  rintro e w1 ⟨rfl, k1, hw1⟩
  have hB1 : Below w.heap.size w w1 := by rw [hw1]; exact below_drewN _ _ _
  clear hw1
  go_wp2_with fail
  (with_reducible refine (HAL.out _ _ _ _).mono ?_)
  rintro e w2 ⟨rfl, k2, hw2⟩
  have hB2 : Below w.heap.size w w2 := by rw [hw2]; exact hB1.trans (below_drewN _ _ _)
  have cx2 := cell_keep hB2 HC.out.2.2.1
  have cy2 := cell_keep hB2 HC.out.2.2.2
  have HB2 := Lib.hid hB2
  clear hw2 hB1 hB2
  go_wp2_with fail
  (with_reducible refine (set_hold bx cx 1 [Y19] w2 (HX.out.below HB2.out) rfl (by omega) (by omega)).mono ?_)
  rintro e w3 ⟨b0, k0, rfl, H0, hb0, hB3⟩
  have hB3' : Below w.heap.size w w3 := HB2.out.trans (hB3.mono HB2.out.size)
  have cy3 := cell_keep hB3' HC.out.2.2.2
  have hb0' : w.heap.size ≤ b0 := Nat.le_trans HB2.out.size hb0
  have HH0 := Lib.hid H0
  have HB3 := Lib.hid hB3'
  clear cx2 cy2 H0 hb0 hB3 hB3'
  go_wp2_with fail
  (with_reducible refine (HNL.out _).mono ?_)
  rintro e w4 ⟨rfl, rfl⟩
  go_wp2_with fail
  refine wp_loop_rounds 4 ?_
  rw [rounds_succ]
  go_wp2_with fail
  (with_reducible refine (sqr_one (.slice none 0 0) _ b0 k0 Y19 _ (ZOk.nil _) (by simp [Value.ownBlock]) HH0.out (by unfold Y19 WB; omega)).mono ?_)
  rintro e w5 ⟨b5, k5, ps5, rfl, g1, g2, g3, g4, g5, g6, g7⟩
  have v5 : val ps5 = 10 ^ 38 := by rw [g4]; simp only [val_cons, val_nil]; decide +kernel
  have l5 : ps5.length = 2 := len19 (k := 1) g2 g3 v5 (by decide +kernel) (by decide +kernel)
  have hb5 : w.heap.size ≤ b5 := Nat.le_trans HB3.out.size (g6.elim (fun e => by cases e) id)
  have hB5 : Below w.heap.size w w5 := HB3.out.trans (below_grown g7 (fun k e => by cases e) HB3.out.size)
  have z5 : ZOk w5 (.slice (some ⟨b0, 0, none⟩) 1 k0) := (HH0.out.grown g7 (fun e => by cases e)).zok
  have q5 := sqr_small (.slice (some ⟨b0, 0, none⟩) 1 k0) (.pointer (some ⟨stb, 0, none⟩)) b5 k5 2 ps5 w5 (cell_keep hB5 HC.out.1) (cell_keep hB5 HC.out.2.1) z5 (fun e => g5 (by injection e with e; exact e.symm)) g1 l5 (by omega) (by omega) g2
  have HQ5 := Lib.hid q5
  have HF5 := Lib.hid (And.intro g1 (And.intro hb5 (And.intro hB5 (And.intro g5 v5))))
  clear g1 g2 g3 g4 g5 g6 g7 v5 hb5 hB5 z5 q5
  go_wp2_with fail
  rw [rounds_succ]
  go_wp2_with fail
  (with_reducible refine HQ5.out.mono ?_)
  rintro e w6 ⟨b6, k6, ps6, rfl, g1, g2, g3, g4, g5, g6, g7⟩
  obtain ⟨f1, f2, f3, f4, f5⟩ := HF5.out
  have v6 : val ps6 = 10 ^ 76 := by rw [g4, f5]
  have l6 : ps6.length = 4 := len19 (k := 3) g2 g3 v6 (by decide +kernel) (by decide +kernel)
  have hb6 : w.heap.size ≤ b6 := g6.elim (fun e => by injection e with e; rw [← e]; exact hb0') (fun h => Nat.le_trans f3.size h)
  have hB6 : Below w.heap.size w w6 := f3.trans (below_grown g7 (fun k e => by injection e with e; rw [← e]; exact hb0') f3.size)
  have z6 : ZOk w6 (.slice (some ⟨b5, 0, none⟩) 2 k5) := by
    have := (f1.grown g7 (fun e => f4 (by injection e with e; exact e.symm))).zok
    rwa [l5] at this
  have q6 := sqr_small (.slice (some ⟨b5, 0, none⟩) 2 k5) (.pointer (some ⟨stb, 0, none⟩)) b6 k6 4 ps6 w6 (cell_keep hB6 HC.out.1) (cell_keep hB6 HC.out.2.1) z6 (fun e => g5 (by injection e with e; exact e.symm)) g1 l6 (by omega) (by omega) g2
  have HQ6 := Lib.hid q6
  have HF6 := Lib.hid (And.intro hb6 (And.intro hB6 (And.intro v6 f2)))
  clear g1 g2 g3 g4 g5 g6 g7 v6 hb6 hB6 z6 q6 f1 f2 f3 f4 f5
  go_wp2_with fail
  rw [rounds_succ]
  go_wp2_with fail
  (with_reducible refine HQ6.out.mono ?_)
  rintro e w7 ⟨b7, k7, ps7, rfl, g1, g2, g3, g4, g5, g6, g7⟩
  obtain ⟨f1, f2, f3, f4⟩ := HF6.out
  have v7 : val ps7 = 10 ^ 152 := by rw [g4, f3]
  have hb7 : w.heap.size ≤ b7 := g6.elim (fun e => by injection e with e; rw [← e]; exact f4) (fun h => Nat.le_trans f2.size h)
  have hB7 : Below w.heap.size w w7 := f2.trans (below_grown g7 (fun k e => by injection e with e; rw [← e]; exact f4) f2.size)
  have q7 := norm_any b7 0 k7 ps7 w7 (fun i x h => by rw [Nat.zero_add]; exact g1.cell h) g1.fit.1 (by have := g1.fit; omega)
  have hn7 : normL ps7 = ps7 := g3
  rw [hn7] at q7
  have HQ7 := Lib.hid q7
  have HF7 := Lib.hid (And.intro g1 (And.intro g2 (And.intro g3 (And.intro v7 (And.intro hb7 hB7)))))
  clear g1 g2 g3 g4 g5 g6 g7 v7 hb7 hB7 q7 hn7 f1 f2 f3 f4
  go_wp2_with fail
  rw [rounds_succ]
  go_wp2_with fail
  refine wp_loop_rounds 1 ?_
  rw [rounds_succ]
  go_wp2_with fail
  (with_reducible refine HQ7.out.mono ?_)
  rintro e w8 ⟨rfl, rfl⟩
  go_wp2_with fail
  exact ⟨_, results_tmp rfl _ _ _, b7, k7, ps7, rfl, HF7.out⟩

theorem setWord_new (x : Nat) (hx : x ≠ 0) (w : World) :
    Calls Tryz.prog 166 #[.slice none 0 0, .int .u64 x] w fun e w' => ∃ b c, e = .returned (.slice (some ⟨b, 0, none⟩) 1 c) ∧ Hold w' b c [x] ∧ w.heap.size ≤ b ∧ Below w.heap.size w w' := by
  refine (setWord_pos w.heap.size (.slice none 0 0) [] x hx w (NatAt.nil _ _) (Nat.le_refl _) (by simp [capOf])).mono ?_
  rintro e w' ⟨v', rfl, h1, h2, h3, h4⟩
  rcases h1 with ⟨_, h⟩ | ⟨b, cap, cs, rfl, g1, g2, g3, g4, g5⟩
  · cases h
  · exact ⟨b, cap, rfl, ⟨cs, g2, g3, g4, g5, by simp [capOf] at h4; omega⟩, g1, below_grown h2 (fun k e => by simp [Value.ownBlock] at e) (Nat.le_refl _)⟩

set_option maxHeartbeats 4000000 in
set_option maxRecDepth 100000 in
theorem expWW_8 (stb : Nat) (w : World) (c13 : w.cell? ⟨13, 0, none⟩ = some (.int .i64 12)) (c14 : w.cell? ⟨14, 0, none⟩ = some (.int .i64 80)) :
    Calls Tryz.prog 146 #[.slice none 0 0, .pointer (some ⟨stb, 0, none⟩), .int .u64 10000000000000000000, .int .u64 8] w fun e w' =>
      ∃ b c ps, e = .returned (.slice (some ⟨b, 0, none⟩) ps.length c) ∧ Hold w' b c ps ∧ Ws ps ∧ Nrm ps ∧ val ps = 10 ^ 152 ∧ w.heap.size ≤ b ∧ Below w.heap.size w w' := by
  have HC := Lib.hid (And.intro c13 c14)
  have h1 : Calls Tryz.prog 166 #[.slice none 0 0, .int .u64 10000000000000000000] w fun e w' => ∃ b c, e = .returned (.slice (some ⟨b, 0, none⟩) 1 c) ∧ Hold w' b c [Y19] ∧ w.heap.size ≤ b ∧ Below w.heap.size w w' := setWord_new Y19 (by decide) w
  have h2 : ∀ w : World, Calls Tryz.prog 166 #[.slice none 0 0, .int .u64 8] w fun e w' => ∃ b c, e = .returned (.slice (some ⟨b, 0, none⟩) 1 c) ∧ Hold w' b c [8] ∧ w.heap.size ≤ b ∧ Below w.heap.size w w' := fun w => setWord_new 8 (by decide) w
  have H1 := Lib.hid h1
  have H2 := Lib.hid h2
  clear c13 c14 h1 h2
  go_enter Tryz.func146, Tryz.ntmps146
  go_wp2_with fail
  (with_reducible refine H1.out.mono ?_)
  rintro e w1 ⟨bx, cx, rfl, g1, g2, g3⟩
  have G1 := Lib.hid (And.intro g1 (And.intro g2 g3))
  clear g1 g2 g3
  go_wp2_with fail
  (with_reducible refine (H2.out _).mono ?_)
  rintro e w2 ⟨b2, cy, rfl, g4, g5, g6⟩
  obtain ⟨g1, g2, g3⟩ := G1.out
  have hB2 : Below w.heap.size w w2 := g3.trans (g6.mono g3.size)
  have hE := expNN_8 stb bx cx b2 cy w2 (cell_keep hB2 HC.out.1) (cell_keep hB2 HC.out.2) (g1.below g6) g4
  have HE := Lib.hid hE
  have HB := Lib.hid hB2
  clear g1 g2 g3 g4 g5 g6 hB2 hE
  go_wp2_with fail
  (with_reducible refine HE.out.mono ?_)
  rintro e w3 ⟨b, c, ps, rfl, k1, k2, k3, k4, k5, k6⟩
  have K := Lib.hid (And.intro k1 (And.intro k2 (And.intro k3 (And.intro k4 (And.intro (Nat.le_trans HB.out.size k5) (HB.out.trans (k6.mono HB.out.size)))))))
  clear k1 k2 k3 k4 k5 k6
  go_wp2_with fail
  go_ret
  exact ⟨b, c, ps, rfl, K.out⟩
end Go.Proofs.Tz

/- Contracts of lshVU_g, lshVU, rshVU_g, rshVU at the shift by one. -/
namespace Go.Proofs.Mv
theorem or_low (k b : Nat) (hb : b ≤ 1) : (2 * k) ||| b = 2 * k + b := by
  have := Nat.shiftLeft_add_eq_or_of_lt (i := 1) (b := b) (by omega) k
  rw [Nat.shiftLeft_eq, Nat.pow_one, Nat.mul_comm k 2] at this
  exact this.symm
theorem or_high (a b : Nat) (ha : a < HB) : a ||| (b * HB) = a + b * HB := by
  have := Nat.shiftLeft_add_eq_or_of_lt (i := 63) (b := a) ha b
  rw [Nat.shiftLeft_eq] at this
  rw [Nat.or_comm, Nat.add_comm]
  exact this.symm
theorem shl_out {xs : List Nat} {n x : Nat} (hw : Ws xs) (hn : xs.length = n + 1) (hx : xs[n]? = some x) : (shlL 0 xs).2 = x / HB := by
  obtain ⟨hj, he⟩ := List.getElem?_eq_some_iff.1 hx
  have hsp := List.take_append_getElem (l := xs) (i := n) hj
  rw [he, List.take_of_length_le (by omega : xs.length ≤ n + 1)] at hsp
  rw [← hsp] at hw ⊢
  exact shlL_out hw
end Go.Proofs.Mv
namespace Go.Proofs.Tz
open Go.RowKit Mv

/-- A word of the source below what is written already. -/
theorem Source.lo {w wr : World} {bz oz bx ox : Nat} {xs : List Nat} {vs : List Value} {T : TypeId} {cs : List Value} (h : Source w bz oz bx ox xs) (hA : Arr w bz T cs) (hg : w.grownBy wr (some bz)) {j : Nat} (hl : oz + j ≤ cs.length)
    {k x : Nat} (hk : xs[k]? = some x) (hkj : k < j) (hW : Arr wr bz T (put cs (oz + j) vs)) : wr.cell? ⟨bx, ox + k, none⟩ = some (word x) := by
  have hc := h.1 k x hk
  by_cases e : bx = bz
  · subst e
    have e2 : ox = oz := by rcases h.2.1 with h | h; exact absurd rfl h; exact h
    subst e2
    refine hW.cell ?_
    rw [put_get_lo hl (by omega)]
    unfold Arr at hA
    simpa [World.cell?, hA] using hc
  · refine (World.cell?_of_block (hg.block bx h.2.2 (by simpa using e))).trans hc

theorem shl_word (x : Nat) : IntKind.u64.wrap ((x : Int) * 2) = ((2 * x % WB : Nat) : Int) := by
  rw [IntKind.wrap_u64]; unfold WB; omega
theorem shl_or (x y : Nat) (hy : y < WB) : bits BinOp.or IntKind.u64 (IntKind.u64.wrap ((x : Int) * 2)) ((y : Int) / 9223372036854775808) = ((2 * x % WB + y / HB : Nat) : Int) := by
  have e1 : 2 * x % WB = 2 * (x % HB) := by unfold WB HB; omega
  have e2 : y / HB ≤ 1 := by unfold WB at hy; unfold HB; omega
  have e3 : ((y : Int) / 9223372036854775808) = ((y / HB : Nat) : Int) := by unfold HB; omega
  rw [shl_word, e3, bits_or_u64_nat _ _ (by unfold WB; omega) (by omega), e1, or_low _ _ e2]

set_option maxHeartbeats 4000000 in
set_option maxRecDepth 100000 in
theorem lshVU_g_any (bz oz cz bx ox cx : Nat) (xs : List Nat) (T : TypeId) (cs : List Value) (w : World) (hA : Arr w bz T cs) (hS : Source w bz oz bx ox xs) (hl : oz + xs.length ≤ cs.length)
    (hm : xs.length ≤ 1000000) (hp : 0 < xs.length) (hx : Ws xs) :
    Calls Tryz.prog 231 #[.slice (some ⟨bz, oz, none⟩) xs.length cz, .slice (some ⟨bx, ox, none⟩) xs.length cx, .int .u64 1] w fun e w' =>
      e = .returned (.int .u64 (shlL 0 xs).2) ∧ Arr w' bz T (put cs oz (wds (shlL 0 xs).1)) ∧ w.grownBy w' (some bz) ∧ w'.heap.size = w.heap.size := by
  obtain ⟨n, hn⟩ : ∃ n, xs.length = n + 1 := ⟨xs.length - 1, by omega⟩
  obtain ⟨R, hR⟩ : ∃ R, R = (shlL 0 xs).1 := ⟨_, rfl⟩
  have hRl : R.length = n + 1 := by rw [hR, shlL_len, hn]
  obtain ⟨xn, hxn⟩ : ∃ x, xs[n]? = some x := ⟨_, List.getElem?_eq_getElem (by omega)⟩
  have hout := shl_out hx hn hxn
  rw [hout, ← hR]
  have hget : ∀ i x, xs[i]? = some x → R[i]? = some (2 * x % WB + (if i = 0 then 0 else (xs[i - 1]?).getD 0 / HB)) := fun i x h => by rw [hR]; exact shlL_get hx (by omega) h
  have hcn : w.cell? ⟨bx, ox + n, none⟩ = some (.int .u64 (xn : Int)) := hS.1 n xn hxn
  have hxnB := hx xn (List.mem_of_getElem? hxn)
  have q63 : bits BinOp.and IntKind.u64 63 63 = 63 := by decide
  have q1 : bits BinOp.and IntKind.u64 1 63 = 1 := by decide
  have HA := Lib.hid hA
  have HS := Lib.hid hS
  have HX := Lib.hid hx
  have HG := Lib.hid hget
  have HR := Lib.hid hRl
  rw [hn] at hl
  have hm2 : n ≤ 1000000 := by omega
  simp only [hn]
  clear hA hS hx hget hR hRl hout hm hp
  have z0 : ((n : Int) + 1 == 0) = false := by simp only [beq_eq_false_iff_ne, ne_eq]; omega
  go_enter Tryz.func231, Tryz.ntmps231
  go_wp2_with fail
  go_loopw [8] (fun i wr => ∃ k : Nat, k ≤ n ∧ i = .int .i64 (k : Int) ∧ Hid (Arr wr bz T (put cs (oz + (k + 1)) (wds (R.drop (k + 1))))) ∧ Hid (w.grownBy wr (some bz)) ∧ Hid (wr.heap.size = w.heap.size)) (fun i _ => (intOf i).toNat)
  case atStart =>
    have e : R.drop (n + 1) = [] := List.drop_eq_nil_of_le (by have := HR.out; omega)
    refine ⟨n, Nat.le_refl _, by go_num, ?_, Lib.hid (grownBy_refl _ _), Lib.hid rfl⟩
    rw [e, show wds [] = [] from rfl, put_nil]
    exact HA
  case round =>
    obtain ⟨k, hk, rfl, H1, H2, H3⟩ := hrel
    obtain ⟨x, hx⟩ : ∃ x, xs[k]? = some x := ⟨_, List.getElem?_eq_getElem (by omega)⟩
    have hxB := HX.out x (List.mem_of_getElem? hx)
    have hcx : wr.cell? ⟨bx, ox + k, none⟩ = some (.int .u64 (x : Int)) := HS.out.lo HA.out H2.out (by omega) hx (by omega) H1.out
    have hfz := H1.out.free (oz + k)
    have hRk := HG.out k x hx
    have hdl : (R.drop (k + 1)).length = n - k := by rw [List.length_drop, HR.out]; omega
    have hnx : ∀ v, R[k]? = some v → Arr (wr.setCell ⟨bz, oz + k, none⟩ (word v)) bz T (put cs (oz + k) (wds (R.drop k))) := fun v hv => by
      have h := H1.out.set (oz + k) (word v)
      rw [show oz + (k + 1) = oz + k + 1 by omega, ← put_cons (by rw [wds_length, hdl]; omega)] at h
      obtain ⟨hj, he⟩ := List.getElem?_eq_some_iff.1 hv
      rw [List.drop_eq_getElem_cons hj, he]
      exact h
    obtain ⟨v0, hv0⟩ := H1.out.get (j := oz + k) (by rw [put_length (by rw [wds_length, hdl]; omega)]; omega)
    cases k with
    | zero =>
      rw [Nat.add_zero] at hcx hfz hv0
      rw [if_pos rfl, Nat.add_zero] at hRk
      have hw : IntKind.u64.wrap ((x : Int) * 2) = ((2 * x % WB : Nat) : Int) := shl_word x
      obtain ⟨v, hv⟩ : ∃ v, v = 2 * x % WB := ⟨_, rfl⟩
      rw [← hv] at hw hRk
      have hN := hnx v hRk
      rw [Nat.add_zero, List.drop_zero] at hN
      have HN := Lib.hid hN
      clear hnx hRk hdl hx hv hN hxB
      go_wp2_with fail
      go_ret
      refine ⟨ret_one ?_, HN.out, grown_trans H2.out (grownBy_set _ _ _ _), (size_set _ _ _).trans H3.out⟩
      unfold HB; omega
    | succ k =>
      obtain ⟨y, hy⟩ : ∃ x, xs[k]? = some x := ⟨_, List.getElem?_eq_getElem (by omega)⟩
      have hyB := HX.out y (List.mem_of_getElem? hy)
      have hcy : wr.cell? ⟨bx, ox + k, none⟩ = some (.int .u64 (y : Int)) := HS.out.lo HA.out H2.out (by omega) hy (by omega) H1.out
      rw [if_neg (by omega), Nat.add_sub_cancel, hy] at hRk
      have hor : bits BinOp.or IntKind.u64 (IntKind.u64.wrap ((x : Int) * 2)) ((y : Int) / 9223372036854775808) = ((2 * x % WB + y / HB : Nat) : Int) := shl_or x y hyB
      obtain ⟨v, hv⟩ : ∃ v, v = 2 * x % WB + y / HB := ⟨_, rfl⟩
      simp only [Option.getD_some] at hRk
      rw [← hv] at hor hRk
      have HN := Lib.hid (hnx v hRk)
      clear hnx hRk hdl hx hv hxB hy hyB
      have b1 : (0 : Int) ≤ (k : Int) + 1 := by omega
      have b2 : (k : Int) + 1 < (n : Int) + 1 := by omega
      have b3 : (0 : Int) ≤ (k : Int) := by omega
      have b4 : (k : Int) < (n : Int) + 1 := by omega
      have b5 : (k : Int) < (n : Int) := by omega
      have b6 : IntKind.i64.wrap (k : Int) = (k : Int) := by rw [IntKind.wrap_i64]; omega
      go_wp2_with fail
      go_still_tail 17, (by kernel_rfl)
      change wpList _ _ _ _ _ wr.drew
      go_wp2_with fail
      go_roundw
      case rel =>
        refine ⟨k, by omega, by go_num, ?_, Lib.hid (grown_trans H2.out (grownBy_drew' (grownBy_set _ _ _ _))), Lib.hid ((size_set _ _ _).trans H3.out)⟩
        exact Lib.hid HN.out.drew
      case measure => simp [intOf]

set_option maxHeartbeats 1000000 in
theorem lshVU_any (bz oz cz bx ox cx : Nat) (xs : List Nat) (T : TypeId) (cs : List Value) (w : World) (hA : Arr w bz T cs) (hS : Source w bz oz bx ox xs) (hl : oz + xs.length ≤ cs.length)
    (hm : xs.length ≤ 1000000) (hp : 0 < xs.length) (hx : Ws xs) :
    Calls Tryz.prog 194 #[.slice (some ⟨bz, oz, none⟩) xs.length cz, .slice (some ⟨bx, ox, none⟩) xs.length cx, .int .u64 1] w fun e w' =>
      e = .returned (.int .u64 (shlL 0 xs).2) ∧ Arr w' bz T (put cs oz (wds (shlL 0 xs).1)) ∧ w.grownBy w' (some bz) ∧ w'.heap.size = w.heap.size := by
  have H := Lib.hid (lshVU_g_any bz oz cz bx ox cx xs T cs w hA hS hl hm hp hx)
  obtain ⟨R, hR⟩ : ∃ r, r = shlL 0 xs := ⟨_, rfl⟩
  rw [← hR] at H ⊢
  clear hA hS hl hm hp hx hR
  go_enter Tryz.func194, Tryz.ntmps194
  go_wp2_with fail
  (with_reducible refine (H.out).mono ?_)
  rintro e w1 ⟨rfl, h1, h2, h3⟩
  go_wp2_with fail
  go_ret
  exact ⟨rfl, h1, h2, h3⟩

theorem shr_or (x y : Nat) (hx : x < WB) : bits BinOp.or IntKind.u64 ((x : Int) / 2) (IntKind.u64.wrap ((y : Int) * 9223372036854775808)) = ((x / 2 + y % 2 * HB : Nat) : Int) := by
  have e1 : IntKind.u64.wrap ((y : Int) * 9223372036854775808) = ((y % 2 * HB : Nat) : Int) := by rw [IntKind.wrap_u64]; unfold HB; omega
  have e2 : ((x : Int) / 2) = ((x / 2 : Nat) : Int) := by omega
  rw [e1, e2, bits_or_u64_nat _ _ (by unfold WB at hx; omega) (by unfold HB; omega), or_high _ _ (by unfold WB at hx; unfold HB; omega)]

set_option maxHeartbeats 4000000 in
set_option maxRecDepth 100000 in
theorem rshVU_g_any (b cz cx : Nat) (xs : List Nat) (T : TypeId) (cs : List Value) (w : World) (hA : Arr w b T cs) (hS : Sub cs 0 xs) (hl : xs.length ≤ cs.length) (hm : xs.length ≤ 1000000) (hp : 0 < xs.length) (hx : Ws xs) :
    Calls Tryz.prog 205 #[.slice (some ⟨b, 0, none⟩) xs.length cz, .slice (some ⟨b, 0, none⟩) xs.length cx, .int .u64 1] w fun e w' =>
      (∃ c, e = .returned (.int .u64 c)) ∧ Arr w' b T (put cs 0 (wds (shrL xs))) ∧ w.grownBy w' (some b) ∧ w'.heap.size = w.heap.size := by
  obtain ⟨n, hn⟩ : ∃ n, xs.length = n + 1 := ⟨xs.length - 1, by omega⟩
  obtain ⟨R, hR⟩ : ∃ R, R = shrL xs := ⟨_, rfl⟩
  have hRl : R.length = n + 1 := by rw [hR, shrL_len, hn]
  obtain ⟨xf, hxf⟩ : ∃ x, xs[0]? = some x := ⟨_, List.getElem?_eq_getElem (by omega)⟩
  have hget : ∀ i x, xs[i]? = some x → R[i]? = some (x / 2 + ((xs[i + 1]?).getD 0 % 2) * HB) := fun i x h => by rw [hR]; exact shrL_get h
  rw [← hR]
  have hcf : w.cell? ⟨b, 0, none⟩ = some (.int .u64 (xf : Int)) := hA.cell (hS 0 xf hxf)
  have q63 : bits BinOp.and IntKind.u64 63 63 = 63 := by decide
  have q1 : bits BinOp.and IntKind.u64 1 63 = 1 := by decide
  have HA := Lib.hid hA
  have HS := Lib.hid hS
  have HX := Lib.hid hx
  have HG := Lib.hid hget
  have HR := Lib.hid hRl
  rw [hn] at hl
  have hm2 : n ≤ 1000000 := by omega
  have hxl : ∀ j, j < n + 1 → ∃ x, xs[j]? = some x := fun j h => ⟨_, List.getElem?_eq_getElem (by omega)⟩
  have hxn : ∀ j, n + 1 ≤ j → xs[j]? = none := fun j h => List.getElem?_eq_none (by omega)
  have HXL := Lib.hid hxl
  have HXN := Lib.hid hxn
  simp only [hn]
  clear hA hS hx hget hR hRl hm hp hn hxf hxl hxn
  have z0 : ((n : Int) + 1 == 0) = false := by simp only [beq_eq_false_iff_ne, ne_eq]; omega
  go_enter Tryz.func205, Tryz.ntmps205
  go_wp2_with fail
  go_loopw [8] (fun i wr => ∃ k : Nat, k ≤ n ∧ i = .int .i64 ((k : Int) + 1) ∧ Hid (Arr wr b T (put cs 0 (wds (R.take k)))) ∧ Hid (w.grownBy wr (some b)) ∧ Hid (wr.heap.size = w.heap.size)) (fun i _ => n + 1 - (intOf i).toNat)
  case atStart =>
    refine ⟨0, Nat.zero_le _, rfl, ?_, Lib.hid (grownBy_refl _ _), Lib.hid rfl⟩
    rw [List.take_zero, show wds [] = [] from rfl, put_nil]
    exact HA
  case round =>
    obtain ⟨k, hk, rfl, H1, H2, H3⟩ := hrel
    obtain ⟨x, hx⟩ := HXL.out k (by omega)
    have hxB := HX.out x (List.mem_of_getElem? hx)
    have htl : (R.take k).length = k := by rw [List.length_take, HR.out]; omega
    have hrd : ∀ j v, k ≤ j → xs[j]? = some v → wr.cell? ⟨b, j, none⟩ = some (.int .u64 (v : Int)) := fun j v h1 h2 => H1.out.cell (by
      rw [put_get_hi (by omega) (by rw [wds_length, htl]; omega)]
      have := HS.out j v h2
      rwa [Nat.zero_add] at this)
    have hcx := hrd k x (Nat.le_refl _) hx
    have hfz := H1.out.free k
    have hRk := HG.out k x hx
    have hnx : ∀ v, R[k]? = some v → Arr (wr.setCell ⟨b, k, none⟩ (word v)) b T (put cs 0 (wds (R.take (k + 1)))) := fun v hv => by
      have h := H1.out.set k (word v)
      obtain ⟨hj, he⟩ := List.getElem?_eq_some_iff.1 hv
      rw [List.take_succ_eq_append_getElem hj, he, wds_append]
      show Arr _ b T (put cs 0 (wds (R.take k) ++ [word v]))
      rw [put_snoc (by rw [wds_length, htl]; omega), wds_length, htl, Nat.zero_add]
      exact h
    by_cases hlt : k < n
    · obtain ⟨y, hy⟩ := HXL.out (k + 1) (by omega)
      have hcy := hrd (k + 1) y (by omega) hy
      rw [hy, Option.getD_some] at hRk
      have hor := shr_or x y hxB
      obtain ⟨v, hv⟩ : ∃ v, v = x / 2 + y % 2 * HB := ⟨_, rfl⟩
      rw [← hv] at hor hRk
      have HN := Lib.hid (hnx v hRk)
      clear hnx hRk htl hx hv hxB hy hrd
      have b1 : (0 : Int) ≤ (k : Int) + 1 := by omega
      have b2 : (k : Int) + 1 < (n : Int) + 1 := by omega
      have b3 : (0 : Int) ≤ (k : Int) := by omega
      have b4 : (k : Int) < (n : Int) + 1 := by omega
      have b5 : (k : Int) < (n : Int) := by omega
      have b6 : IntKind.i64.wrap (k : Int) = (k : Int) := by rw [IntKind.wrap_i64]; omega
      go_wp2_with fail
      go_still_tail 18, (by kernel_rfl)
      change wpList _ _ _ _ _ wr.drew
      go_wp2_with fail
      go_roundw
      case rel =>
        refine ⟨k + 1, by omega, by go_num, ?_, Lib.hid (grown_trans H2.out (grownBy_drew' (grownBy_set _ _ _ _))), Lib.hid ((size_set _ _ _).trans H3.out)⟩
        exact Lib.hid HN.out.drew
      case measure => simp [intOf]; omega
    · obtain rfl : k = n := by omega
      rw [HXN.out (k + 1) (by omega), Option.getD_none, Nat.zero_mod, Nat.zero_mul, Nat.add_zero] at hRk
      have HN := Lib.hid (hnx _ hRk)
      have hw : (x : Int) / 2 = ((x / 2 : Nat) : Int) := by omega
      obtain ⟨v, hv⟩ : ∃ v, v = x / 2 := ⟨_, rfl⟩
      rw [← hv] at hw HN
      have hRt : R.take (k + 1) = R := List.take_of_length_le (by have := HR.out; omega)
      rw [hRt] at HN
      clear hnx hRk htl hx hv hxB hrd hRt
      go_wp2_with fail
      go_ret
      exact ⟨⟨_, rfl⟩, HN.out, grown_trans H2.out (grownBy_set _ _ _ _), (size_set _ _ _).trans H3.out⟩

set_option maxHeartbeats 1000000 in
theorem rshVU_any (b cz cx : Nat) (xs : List Nat) (T : TypeId) (cs : List Value) (w : World) (hA : Arr w b T cs) (hS : Sub cs 0 xs) (hl : xs.length ≤ cs.length) (hm : xs.length ≤ 1000000) (hp : 0 < xs.length) (hx : Ws xs) :
    Calls Tryz.prog 177 #[.slice (some ⟨b, 0, none⟩) xs.length cz, .slice (some ⟨b, 0, none⟩) xs.length cx, .int .u64 1] w fun e w' =>
      (∃ c, e = .returned (.int .u64 c)) ∧ Arr w' b T (put cs 0 (wds (shrL xs))) ∧ w.grownBy w' (some b) ∧ w'.heap.size = w.heap.size := by
  have H := Lib.hid (rshVU_g_any b cz cx xs T cs w hA hS hl hm hp hx)
  obtain ⟨R, hR⟩ : ∃ r, r = shrL xs := ⟨_, rfl⟩
  rw [← hR] at H ⊢
  clear hA hS hl hm hp hx hR
  go_enter Tryz.func177, Tryz.ntmps177
  go_wp2_with fail
  (with_reducible refine (H.out).mono ?_)
  rintro e w1 ⟨⟨c, rfl⟩, h1, h2, h3⟩
  go_wp2_with fail
  go_ret
  exact ⟨⟨c, rfl⟩, h1, h2, h3⟩
end Go.Proofs.Tz

/- Contract of basicSqr at sixteen words. -/
namespace Go.Proofs.Tz
open Go.RowKit Mv

theorem save_zero (st : Nat) (R : Nat → Prop) (w : World) (h : Stk0 w st R) : Calls Tryz.prog 192 #[.pointer (some ⟨st, 0, none⟩)] w fun e w' => e = .returned (.int .i64 0) ∧ w = w' := by
  rcases h.2 with h2 | ⟨si, bw, c, cs, _, _, h2⟩
  · exact save_none st w h2
  · exact save_some st si bw 0 c cs w h2
theorem put_two {cs vs : List Value} {a b : Value} (h : vs.length + 2 ≤ cs.length) : ((put cs 0 vs).set (vs.length + 1) b).set vs.length a = put cs 0 (vs ++ [a, b]) := by
  have h1 := put_snoc (cs := cs) (vs := vs) (off := 0) (v := a) (by omega)
  have h2 := put_snoc (cs := cs) (vs := vs ++ [a]) (off := 0) (v := b) (by simp; omega)
  rw [List.append_assoc] at h2
  rw [show vs ++ [a, b] = vs ++ ([a] ++ [b]) from rfl, h2, h1]
  simp only [Nat.zero_add, List.length_append, List.length_singleton]
  rw [List.set_comm _ _ (by omega)]
theorem only_grown {P : Nat → Prop} {a b : World} {k : Nat} (h : a.grownBy b (some k)) (hk : P k) : Only P a b := (Only.refl _ _).of_grown h hk

set_option maxHeartbeats 8000000 in
set_option maxRecDepth 100000 in
theorem basicSqr_16 (R : Nat → Prop) (st bz cz bx cx : Nat) (xs : List Nat) (csz : List Value) (w : World) (c13 : w.cell? ⟨13, 0, none⟩ = some (.int .i64 12)) (hS : Stk0 w st R) (hR : ∀ k, R k → k < w.heap.size) (hbz : R bz) (hbx : R bx) (hne : bx ≠ bz)
    (hZ : Arr w bz 160 csz) (hzl : 32 ≤ csz.length) (hzc : csz.length = cz) (hX : Hold w bx cx xs) (hxl : xs.length = 16) (hx : Ws xs) :
    Calls Tryz.prog 170 #[.pointer (some ⟨st, 0, none⟩), .slice (some ⟨bz, 0, none⟩) 32 cz, .slice (some ⟨bx, 0, none⟩) 16 cx] w fun e w' =>
      e = .returned (.tuple #[]) ∧ (∃ ps, Arr w' bz 160 (put csz 0 (wds ps)) ∧ ps.length = 32 ∧ Ws ps ∧ val ps = val xs * val xs) ∧ Only (fun k => ¬ R k ∨ k = bz) w w' ∧ Stk0 w' st R := by
  have hst := hS.1
  have hsv := save_zero st R w hS
  have hnt : Calls Tryz.prog 193 #[.pointer (some ⟨st, 0, none⟩), .int .i64 32] w fun e w' =>
      ∃ si bq c cs, e = .returned (.slice (some ⟨bq, 0, none⟩) 32 32) ∧ ¬ R si ∧ ¬ R bq ∧ StkB w' st si bq 32 c cs ∧ Only (fun k => ¬ R k) w w' := nat_zero R st 32 32 w hS hR (by omega) (by omega) (by omega) (by decide)
  have HSV := Lib.hid hsv
  have HNT := Lib.hid hnt
  have HZ := Lib.hid hZ
  have HX := Lib.hid hX
  have HL := Lib.hid hxl
  have HW := Lib.hid hx
  have HR := Lib.hid (And.intro hbz hbx)
  clear hsv hnt hZ hX hxl hx hS hR hbz hbx
  go_enter_defers Tryz.func170, Tryz.ntmps170
  go_wp2_with fail
  (with_reducible refine HSV.out.mono ?_)
  rintro e w1 ⟨rfl, rfl⟩
  go_wp2_with fail
  (with_reducible refine HNT.out.mono ?_)
  rintro e w2 ⟨si, bq, c, cs, rfl, n1, n2, n3, n4⟩
  have hlq := n3.inner.len
  have hlf := n3.inner.fit
  have hcl : ∀ ty, (Builtin.clear_ #[118] ty #[.slice (some ⟨bq, 0, none⟩) 32 32]).run Tryz.prog w2 = .ok (.tuple #[]) (w2.setCells bq 0 (zs 32)) := fun ty => run_clear_wds w2 118 ty Tryz.underlying118 bq 0 32 32 160 cs n3.inner.row (by omega) (by omega)
  obtain ⟨a1, a2, a3⟩ := arr_setCells (zs 32) 0 w2 cs n3.inner.row (by rw [zs_length]; omega)
  obtain ⟨w3, hw3⟩ : ∃ w3, w2.setCells bq 0 (zs 32) = w3 := ⟨_, rfl⟩
  rw [hw3] at a1 a2 a3 hcl
  rw [zs_wds] at a1
  have hqz : bq ≠ bz := fun e => n2 (by rw [e]; exact HR.out.1)
  have hqx : bq ≠ bx := fun e => n2 (by rw [e]; exact HR.out.2)
  have o3 : Only (fun k => ¬ R k) w w3 := n4.of_grown a2 n2
  have z3 : Arr w3 bz 160 csz := HZ.out.only o3 (fun h => h HR.out.1)
  have x3 : Hold w3 bx cx xs := HX.out.only o3 (fun h => h HR.out.2)
  have p3 : Arr w3 st 194 [.pointer (some ⟨si, 0, none⟩)] := n3.ptr.other a2 (fun e => n3.ne.2 (by injection e))
  have h3 : Arr w3 si 227 [.slice (some ⟨bq, 0, none⟩) 32 c] := n3.inner.hdr.other a2 (fun e => n3.inner.ne (by injection e))
  have hcap := n3.inner.cap
  obtain ⟨x0, hx0⟩ : ∃ x, xs[0]? = some x := ⟨_, List.getElem?_eq_getElem (by have := HL.out; omega)⟩
  have cx0 : w3.cell? ⟨bx, 0, none⟩ = some (.int .u64 (x0 : Int)) := x3.cell hx0
  have hmul := fun w => mulWW_any x0 x0 (HW.out x0 (List.mem_of_getElem? hx0)) (HW.out x0 (List.mem_of_getElem? hx0)) w
  obtain ⟨hi, hhi⟩ : ∃ h, h = x0 * x0 / WB := ⟨_, rfl⟩
  obtain ⟨lo, hlo⟩ : ∃ h, h = x0 * x0 % WB := ⟨_, rfl⟩
  rw [← hhi, ← hlo] at hmul
  obtain ⟨v0, d0⟩ := z3.get (j := 0) (by omega)
  obtain ⟨v1, d1⟩ := z3.get (j := 1) (by omega)
  have f0 := z3.free 0
  have f1 := z3.free 1
  have ht1 : xs.take 1 = [x0] := by
    cases xs with
    | nil => simp at hx0
    | cons a r => simp at hx0; subst hx0; rfl
  have hAz : Arr ((w3.setCell ⟨bz, 1, none⟩ (word hi)).setCell ⟨bz, 0, none⟩ (word lo)) bz 160 (put csz 0 (wds (sqs (xs.take 1)))) := by
    have e := put_two (cs := csz) (vs := []) (a := word lo) (b := word hi) (by simp; omega)
    rw [put_nil] at e
    rw [ht1]
    have e2 : wds (sqs [x0]) = [] ++ [word lo, word hi] := by rw [hlo, hhi]; rfl
    rw [e2, ← e]
    exact (z3.set 1 _).set 0 _
  have hk2 : ∀ v, (w3.setCell ⟨bz, 1, none⟩ v).cell? ⟨bx, 0, none⟩ = some (.int .u64 (x0 : Int)) := fun v => (World.cell?_of_block (Below.heap_setCell w3 ⟨bz, 1, none⟩ v bx hne)).trans cx0
  have hk3 : ∀ v u, ((w3.setCell ⟨bz, 1, none⟩ v).setCell ⟨bz, 0, none⟩ u).cell? ⟨bx, 0, none⟩ = some (.int .u64 (x0 : Int)) := fun v u => (World.cell?_of_block (Below.heap_setCell _ ⟨bz, 0, none⟩ u bx hne)).trans (hk2 v)
  have M1 := Lib.hid hmul
  have A := Lib.hid (And.intro a1 (And.intro o3 (And.intro x3 (And.intro p3 (And.intro h3 (And.intro n1 (And.intro n2 (And.intro hqz hqx))))))))
  have HAZ := Lib.hid hAz
  have HLQ := Lib.hid (And.intro hlq hlf)
  clear a1 a2 a3 o3 x3 p3 h3 n1 n2 n3 n4 hqz hqx hw3 hmul hhi hlo hx0 z3 ht1 hAz hlq hlf
  go_wp2_with fail
  first
    | go_region_held3 (fun w' => w'.cell? ⟨bx, 0, none⟩ = some (.int .u64 (x0 : Int))) (first | exact cx0 | exact hk2 _ | exact hk3 _ _)
        (first
          | (go_at_call 167; refine (M1.out _).mono ?_; rintro e w' ⟨rfl, rfl⟩)
          | fail)
    | fail
  clear hk2 hk3
  go_wp2_with fail
  obtain ⟨wA, hwA⟩ : ∃ wA, ((w3.setCell ⟨bz, 1, none⟩ (.int .u64 (hi : Int))).setCell ⟨bz, 0, none⟩ (.int .u64 (lo : Int))).drew = wA := ⟨_, rfl⟩
  rw [hwA]
  obtain ⟨a1, o3, x3, p3, h3, n1, n2, hqz, hqx⟩ := A.out
  have hstz : st ≠ bz := fun e => hst (by rw [e]; exact HR.out.1)
  have hsiz : si ≠ bz := fun e => n1 (by rw [e]; exact HR.out.1)
  have zA : Arr wA bz 160 (put csz 0 (wds (sqs (xs.take 1)))) := by rw [← hwA]; exact HAZ.out.drew
  have tA : Arr wA bq 160 (put cs 0 (wds (List.replicate 32 0))) := by rw [← hwA]; exact ((a1.setOther hqz _).setOther hqz _).drew
  have xA : Hold wA bx cx xs := by rw [← hwA]; exact x3.keep ((Below.heap_setCell _ ⟨bz, 0, none⟩ _ bx hne).trans (Below.heap_setCell _ ⟨bz, 1, none⟩ _ bx hne))
  have pA : Arr wA st 194 [.pointer (some ⟨si, 0, none⟩)] := by rw [← hwA]; exact ((p3.setOther hstz _).setOther hstz _).drew
  have hA : Arr wA si 227 [.slice (some ⟨bq, 0, none⟩) 32 c] := by rw [← hwA]; exact ((h3.setOther hsiz _).setOther hsiz _).drew
  have oA : Only (fun k => ¬ R k ∨ k = bz) w wA := by rw [← hwA]; exact (((o3.mono (Q := fun k => ¬ R k ∨ k = bz) fun k h => .inl h).set (.inr rfl) _ _).set (.inr rfl) _ _).drew
  have hT1 : TInv xs (List.replicate 32 0) 1 := by
    have := TInv.start (xs := xs) (by have := HL.out; omega)
    rw [HL.out] at this; exact this
  have ZA := Lib.hid zA
  have TA := Lib.hid tA
  have AA := Lib.hid (And.intro xA (And.intro pA (And.intro hA (And.intro oA (And.intro n1 (And.intro n2 (And.intro hqz (And.intro hqx (And.intro hstz hsiz)))))))))
  have HT1 := Lib.hid hT1
  clear hwA a1 o3 x3 p3 h3 n1 n2 hqz hqx hstz hsiz zA tA xA pA hA oA hT1 A HAZ d0 d1 f0 f1 cx0 M1 hcl
  go_loopw [8, 9] (fun i a9 wr => ∃ (k : Nat) (v9 : Value) (tl : List Nat), v9 = a9 ∧ 1 ≤ k ∧ k ≤ 16 ∧ i = .int .i64 (k : Int) ∧ Hid (Arr wr bz 160 (put csz 0 (wds (sqs (xs.take k))))) ∧ Hid (Arr wr bq 160 (put cs 0 (wds tl))) ∧ Hid (TInv xs tl k) ∧ Hid (Only (fun k => k = bz ∨ k = bq) wA wr)) (fun i _ _ => 16 - (intOf i).toNat)
  case atStart => exact ⟨1, _, _, rfl, by omega, by omega, rfl, ZA, TA, HT1, Lib.hid (Only.refl _ _)⟩
  case round =>
    obtain ⟨k, v9, tl, rfl, hk1, hk, rfl, H1, H2, H3, H4⟩ := hrel
    obtain ⟨xA, pA, hA, oA, n1, n2, hqz, hqx, hstz, hsiz⟩ := AA.out
    have hxr : Hold wr bx cx xs := xA.only H4.out (fun e => e.elim hne (fun e => hqx e.symm))
    have hlt2 := H3.out.len
    rw [HL.out] at hlt2
    by_cases hlt : k < 16
    · obtain ⟨d, hd⟩ : ∃ d, xs[k]? = some d := ⟨_, List.getElem?_eq_getElem (by have := HL.out; omega)⟩
      have hcd : wr.cell? ⟨bx, k, none⟩ = some (.int .u64 (d : Int)) := hxr.cell hd
      have hdB := HW.out d (List.mem_of_getElem? hd)
      have hmul := fun w => mulWW_any d d hdB hdB w
      obtain ⟨hi, hhi⟩ : ∃ h, h = d * d / WB := ⟨_, rfl⟩
      obtain ⟨lo, hlo⟩ : ∃ h, h = d * d % WB := ⟨_, rfl⟩
      rw [← hhi, ← hlo] at hmul
      have hsq : (wds (sqs (xs.take k))).length = 2 * k := by rw [wds_length, sqs_len, List.length_take, HL.out]; omega
      have hpl : (put csz 0 (wds (sqs (xs.take k)))).length = csz.length := put_length (by omega)
      obtain ⟨v0, d0⟩ := H1.out.get (j := 2 * k) (by omega)
      obtain ⟨v1, d1⟩ := H1.out.get (j := 2 * k + 1) (by omega)
      have f0 := H1.out.free (2 * k)
      have f1 := H1.out.free (2 * k + 1)
      obtain ⟨wB, hwB⟩ : ∃ wB, (wr.setCell ⟨bz, 2 * k + 1, none⟩ (.int .u64 (hi : Int))).setCell ⟨bz, 2 * k, none⟩ (.int .u64 (lo : Int)) = wB := ⟨_, rfl⟩
      have zB : Arr wB bz 160 (put csz 0 (wds (sqs (xs.take (k + 1))))) := by
        have e := put_two (cs := csz) (vs := wds (sqs (xs.take k))) (a := word lo) (b := word hi) (by omega)
        rw [hsq] at e
        obtain ⟨hj, he⟩ := List.getElem?_eq_some_iff.1 hd
        have e2 : wds (sqs (xs.take (k + 1))) = wds (sqs (xs.take k)) ++ [word lo, word hi] := by
          rw [List.take_succ_eq_append_getElem hj, he, sqs_append, wds_append, hlo, hhi]; rfl
        rw [e2, ← e, ← hwB]
        exact (H1.out.set _ _).set _ _
      have tB : Arr wB bq 160 (put cs 0 (wds tl)) := by rw [← hwB]; exact (H2.out.setOther hqz _).setOther hqz _
      have xB : Hold wB bx cx xs := by rw [← hwB]; exact hxr.keep ((Below.heap_setCell _ ⟨bz, 2 * k, none⟩ _ bx hne).trans (Below.heap_setCell _ ⟨bz, 2 * k + 1, none⟩ _ bx hne))
      have oB : Only (fun k => k = bz ∨ k = bq) wA wB := by rw [← hwB]; exact (H4.out.set (.inl rfl) _ _).set (.inl rfl) _ _
      have HMU := Lib.hid hmul
      have i1 : (2 * (k : Int)).toNat = 2 * k := by omega
      have i2 : (2 * (k : Int) + 1).toNat = 2 * k + 1 := by omega
      have i3 : (0 : Int) ≤ 2 * (k : Int) + 1 := by omega
      have i4 : 2 * (k : Int) + 1 < 32 := by omega
      have i5 : (0 : Int) ≤ 2 * (k : Int) := by omega
      have i6 : 2 * (k : Int) < 32 := by omega
      have KB := Lib.hid (And.intro zB (And.intro tB (And.intro xB (And.intro oB (And.intro hd hdB)))))
      clear hmul hhi hlo hsq hpl zB tB xB oB hd hxr xA pA hA oA n1 n2 hqz hqx hstz hsiz hdB
      go_wp2_with fail
      (with_reducible refine (HMU.out _).mono ?_)
      rintro e w4 ⟨rfl, rfl⟩
      go_wp2_with fail
      obtain ⟨zB, tB, xB, oB, hd, hdB⟩ := KB.out
      obtain ⟨xA, pA, hA, oA, n1, n2, hqz, hqx, hstz, hsiz⟩ := AA.out
      have hcsl : 32 ≤ cs.length := by have := HLQ.out; omega
      have hz0 : tl[k + k]? = some 0 := H3.out.zero _ (by omega) (by omega)
      have hlz : (put cs 0 (wds tl)).length = cs.length := put_length (by rw [wds_length]; omega)
      have e0 : wB.cell? ⟨bq, 2 * k, none⟩ = some (.int .u64 0) := tB.cell (by
        have := put_get_in (cs := cs) (vs := wds tl) (off := 0) (i := 2 * k) (by omega) (by rw [wds_length]; omega)
        rw [Nat.zero_add] at this
        rw [this]; exact wds_get (by rw [Nat.two_mul]; exact hz0))
      have g0 := tB.free (2 * k)
      have hsl : ((tl.drop k).take k).length = k := by rw [List.length_take, List.length_drop]; omega
      have hxk : (xs.take k).length = k := by rw [List.length_take, HL.out]; omega
      have hsub : Sub (put cs 0 (wds tl)) k ((tl.drop k).take k) := by
        have := ((Sub.put_in (cs := cs) (off := 0) (xs := tl) (by omega)).drop k).take k
        rwa [Nat.zero_add] at this
      have hc := addMulVVWW_any bq k (32 - k) (32 - k) bx 0 cx ((tl.drop k).take k) (xs.take k) d 160 (put cs 0 (wds tl)) wB.drew tB.drew hsub (fun i y hy => by
        rw [Nat.zero_add]
        have hik : i < k := by have := (List.getElem?_eq_some_iff.1 hy).1; omega
        rw [List.getElem?_take_of_lt hik] at hy
        exact xB.cell hy) (Ne.symm hqx) (by rw [hsl, hxk]) (by rw [hsl, hlz]; omega) (by rw [hsl]; omega) ((H3.out.ws.drop k).take k) (HW.out.take k) hdB
      obtain ⟨A', hA'⟩ : ∃ A, A = addMulL d ((tl.drop k).take k) (xs.take k) := ⟨_, rfl⟩
      obtain ⟨hAl, hAw, hAc, hnx⟩ := H3.out.next hd hk1 HW.out hA'
      rw [← hA'] at hc
      rw [hsl] at hc
      have hpu : put (put cs 0 (wds tl)) k (wds A'.1) = put cs 0 (wds (upd tl k A'.1)) := by
        have := put_wds_upd (cs := cs) (zl := tl) (A := A'.1) (off := 0) (j := k) (by omega) (by omega)
        rwa [Nat.zero_add] at this
      rw [hpu] at hc
      have hul : (upd tl k A'.1).length = 32 := by rw [upd_len (by omega), hlt2]
      have hst' : (put cs 0 (wds (upd tl k A'.1))).set (k + k) (word A'.2) = put cs 0 (wds ((upd tl k A'.1).set (k + k) A'.2)) := by
        have := set_wds_upd (cs := cs) (zl := upd tl k A'.1) (off := 0) (j := k + k) (x := A'.2) (by omega) (by omega)
        rwa [Nat.zero_add] at this
      have hg0 : (upd tl k A'.1)[k + k]? = some 0 := by rw [upd_get_hi (by omega) (by omega)]; exact hz0
      have hcz : (put cs 0 (wds (upd tl k A'.1)))[2 * k]? = some (.int .u64 0) := by
        have := put_get_in (cs := cs) (vs := wds (upd tl k A'.1)) (off := 0) (i := 2 * k) (by omega) (by rw [wds_length]; omega)
        rw [Nat.zero_add] at this
        rw [this]; exact wds_get (by rw [Nat.two_mul]; exact hg0)
      obtain ⟨U, hU⟩ : ∃ U, U = put cs 0 (wds (upd tl k A'.1)) := ⟨_, rfl⟩
      rw [← hU] at hc hst' hcz
      rw [show k + k = 2 * k by omega] at hst' hnx
      have HC := Lib.hid hc
      have HNX := Lib.hid hnx
      have HST := Lib.hid hst'
      have HCZ := Lib.hid hcz
      have HZB := Lib.hid zB
      have HOB := Lib.hid (And.intro oB hqz)
      have j1 : IntKind.i64.wrap (2 * (k : Int)) = 2 * (k : Int) := by rw [IntKind.wrap_i64]; omega
      have j2 : (0 : Int) ≤ (k : Int) := by omega
      have j3 : 2 * k - k = k := by omega
      have j4 : ¬ 32 = k := by omega
      have j5 : (k : Int) ≤ 2 * (k : Int) := by omega
      have j6 : 2 * (k : Int) ≤ 32 := by omega
      have j7 : (k : Int) ≤ (cx : Int) := by have := xA.fit.1; have := HL.out; omega
      clear hd hdB hc hnx hst' hcz hU hpu hul hg0 hAl hAw hAc hsl hsub hlz hz0 hA' hxk xB oB zB tB xA pA hA oA n1 n2 hqz hqx hstz hsiz hcsl KB hcd
      first
        | go_region_held3 (fun _ => True) (first | trivial)
            (first
              | (go_at_call 190; refine HC.out.mono ?_; rintro e w5 ⟨rfl, q1, q2, q3⟩; have c1 : w5.cell? ⟨bq, 2 * k, none⟩ = some (.int .u64 0) := q1.cell HCZ.out; have f9 : w5.frozen? ⟨bq, 2 * k, none⟩ = false := q1.free _)
              | fail)
        | fail
      have r1 := q1.set (2 * k) (word A'.2)
      rw [HST.out] at r1
      have R1 := Lib.hid r1
      have R0 := Lib.hid (show Arr (w5.setCell ⟨bq, 2 * k, none⟩ (word A'.2)) bz 160 (put csz 0 (wds (sqs (xs.take (k + 1))))) from ((HZB.out.drew).other q2 (fun e => HOB.out.2 (by injection e with e; exact e.symm))).setOther (Ne.symm HOB.out.2) _)
      have R2 := Lib.hid (show Only (fun k => k = bz ∨ k = bq) wA (w5.setCell ⟨bq, 2 * k, none⟩ (word A'.2)) from (((HOB.out.1).drew).of_grown q2 (.inr rfl)).set (.inr rfl) _ _)
      clear r1 q1 q2 q3 c1 f9
      go_wp2_with fail
      go_roundw
      case rel => exact ⟨k + 1, _, _, rfl, by omega, by omega, by go_num, R0, R1, HNX, R2⟩
      case measure => simp [intOf]; omega
    · obtain rfl : k = 16 := by omega
      have hxt : xs.take 16 = xs := List.take_of_length_le (by have := HL.out; omega)
      rw [hxt] at H1
      have hcsl : 32 ≤ cs.length := by have := HLQ.out; omega
      have hT3 : TInv xs tl xs.length := by rw [HL.out]; exact H3.out
      obtain ⟨S, hS⟩ : ∃ S, S = shlL 0 ((tl.drop 1).take 30) := ⟨_, rfl⟩
      obtain ⟨T, hTe⟩ : ∃ T, T = (upd tl 1 S.1).set 31 S.2 := ⟨_, rfl⟩
      obtain ⟨Rr, hRr⟩ : ∃ R, R = addL (sqs xs) T := ⟨_, rfl⟩
      obtain ⟨s1, s2, s3, s4, s5, s6⟩ := sq_done hT3 HW.out (by rw [HL.out]; omega) (S := S) (T := T) (R := Rr) (by rw [HL.out]; exact hS) (by rw [HL.out]; exact hTe) hRr
      rw [HL.out] at s1 s2 s4
      have hsl : ((tl.drop 1).take 30).length = 30 := by rw [List.length_take, List.length_drop]; omega
      have hlz : (put cs 0 (wds tl)).length = cs.length := put_length (by rw [wds_length]; omega)
      have hz0 : tl[31]? = some 0 := H3.out.zero _ (by omega) (by omega)
      have e0 : wr.cell? ⟨bq, 31, none⟩ = some (.int .u64 0) := H2.out.cell (by
        have := put_get_in (cs := cs) (vs := wds tl) (off := 0) (i := 31) (by omega) (by rw [wds_length]; omega)
        rw [Nat.zero_add] at this
        rw [this]; exact wds_get hz0)
      have g0 := H2.out.free 31
      have hsub : Sub (put cs 0 (wds tl)) 1 ((tl.drop 1).take 30) := by
        have := ((Sub.put_in (cs := cs) (off := 0) (xs := tl) (by omega)).drop 1).take 30
        rwa [Nat.zero_add] at this
      have hc := lshVU_any bq 1 31 bq 1 31 ((tl.drop 1).take 30) 160 (put cs 0 (wds tl)) wr.drew H2.out.drew ⟨fun i x hx => H2.out.drew.cell (hsub i x hx), .inr rfl, H2.out.lt⟩ (by rw [hsl, hlz]; omega) (by rw [hsl]; omega) (by rw [hsl]; omega) ((H3.out.ws.drop 1).take 30)
      rw [← hS, hsl] at hc
      have hpu : put (put cs 0 (wds tl)) 1 (wds S.1) = put cs 0 (wds (upd tl 1 S.1)) := by
        have := put_wds_upd (cs := cs) (zl := tl) (A := S.1) (off := 0) (j := 1) (by omega) (by omega)
        rwa [Nat.zero_add] at this
      rw [hpu] at hc
      have hul : (upd tl 1 S.1).length = 32 := by rw [upd_len (by omega), hlt2]
      have hst' : (put cs 0 (wds (upd tl 1 S.1))).set 31 (word S.2) = put cs 0 (wds T) := by
        have := set_wds_upd (cs := cs) (zl := upd tl 1 S.1) (off := 0) (j := 31) (x := S.2) (by omega) (by omega)
        rw [Nat.zero_add] at this
        rw [this, hTe]
      have hg0 : (upd tl 1 S.1)[31]? = some 0 := by rw [upd_get_hi (by omega) (by omega)]; exact hz0
      have hcz : (put cs 0 (wds (upd tl 1 S.1)))[31]? = some (.int .u64 0) := by
        have := put_get_in (cs := cs) (vs := wds (upd tl 1 S.1)) (off := 0) (i := 31) (by omega) (by rw [wds_length]; omega)
        rw [Nat.zero_add] at this
        rw [this]; exact wds_get hg0
      obtain ⟨U, hU⟩ : ∃ U, U = put cs 0 (wds (upd tl 1 S.1)) := ⟨_, rfl⟩
      rw [← hU] at hc hst' hcz
      have HC := Lib.hid hc
      have HST := Lib.hid hst'
      have HCZ := Lib.hid hcz
      have HS := Lib.hid (And.intro s2 (And.intro s3 (And.intro s4 (And.intro s5 s6))))
      have HRR := Lib.hid hRr
      clear hc hst' hcz hU hpu hul hg0 hsl hsub hlz hz0 hS hTe s1 s2 s3 s4 s5 s6 hT3 hxt hxr xA pA hA oA n1 n2 hqz hqx hstz hsiz hcsl hRr
      have w32 : IntKind.i64.wrap 32 = 32 := by decide
      have w31 : IntKind.i64.wrap 31 = 31 := by decide
      go_wp2_with fail
      first
        | go_region_held3 (fun _ => True) (first | trivial)
            (first
              | (go_at_call 194; refine HC.out.mono ?_; rintro e w5 ⟨rfl, q1, q2, q3⟩; have c1 : w5.cell? ⟨bq, 31, none⟩ = some (.int .u64 0) := q1.cell HCZ.out; have f9 : w5.frozen? ⟨bq, 31, none⟩ = false := q1.free _)
              | fail)
        | fail
      obtain ⟨xA, pA, hA, oA, n1, n2, hqz, hqx, hstz, hsiz⟩ := AA.out
      obtain ⟨s2, s3, s4, s5, s6⟩ := HS.out
      obtain ⟨w6, hw6⟩ : ∃ w6, w5.setCell ⟨bq, 31, none⟩ (.int .u64 (S.2 : Int)) = w6 := ⟨_, rfl⟩
      have r1 : Arr w6 bq 160 (put cs 0 (wds T)) := by rw [← hw6, ← HST.out]; exact q1.set 31 (word S.2)
      have r0 : Arr w6 bz 160 (put csz 0 (wds (sqs xs))) := by rw [← hw6]; exact (H1.out.drew.other q2 (fun e => hqz (by injection e with e; exact e.symm))).setOther (Ne.symm hqz) _
      have r2 : Only (fun k => k = bz ∨ k = bq) wA w6 := by rw [← hw6]; exact ((H4.out.drew).of_grown q2 (.inr rfl)).set (.inr rfl) _ _
      have hsl : (sqs xs).length = 32 := by rw [sqs_len, HL.out]
      have hpl : (put csz 0 (wds (sqs xs))).length = csz.length := put_length (by rw [wds_length]; omega)
      have hc := addVV_any bz 0 cz cz bq 0 32 (sqs xs) T 160 (put csz 0 (wds (sqs xs))) w6 r0 (Sub.put_in (by omega)) (fun i y hy => by
        rw [Nat.zero_add]
        have hil := (List.getElem?_eq_some_iff.1 hy).1
        have := put_get_in (cs := cs) (vs := wds T) (off := 0) (i := i) (by omega) (by rw [wds_length]; exact hil)
        rw [Nat.zero_add] at this
        exact r1.cell (by rw [this]; exact wds_get hy)) hqz (by rw [hsl, s2]) (by rw [hsl, hpl]; omega) (by rw [hsl]; omega) (sqs_ws HW.out) s3
      rw [← HRR.out, hsl, put_put (by rw [wds_length, wds_length, s4, hsl]) (by rw [wds_length, hsl]; omega)] at hc
      have HC2 := Lib.hid hc
      have B := Lib.hid (And.intro r1 (And.intro r2 (And.intro s4 (And.intro s5 s6))))
      rw [hw6]
      clear hc r0 r1 r2 hsl hpl q1 q2 q3 c1 f9 hw6 xA pA hA oA n1 n2 hqz hqx hstz hsiz s2 s3 s4 s5 s6 e0 g0
      go_wp2_with fail
      (with_reducible refine HC2.out.mono ?_)
      rintro e w7 ⟨rfl, k1, k2, k3⟩
      obtain ⟨xA, pA, hA, oA, n1, n2, hqz, hqx, hstz, hsiz⟩ := AA.out
      obtain ⟨r1, r2, s4, s5, s6⟩ := B.out
      have o7 : Only (fun k => k = bz ∨ k = bq) wA w7 := r2.of_grown k2 (.inl rfl)
      have hnp : ∀ j, j ≠ bz → j ≠ bq → ¬ (j = bz ∨ j = bq) := fun j a b h => h.elim a b
      have hstq : st ≠ bq := fun e => by
        have h1 := pA
        have h2 := TA.out
        rw [e] at h1
        unfold Arr at h1 h2
        rw [h1] at h2
        injection h2 with h2
        injection h2 with _ h2
        exact absurd h2 (by decide)
      have hsiq : si ≠ bq := fun e => by
        have h1 := hA
        have h2 := TA.out
        rw [e] at h1
        unfold Arr at h1 h2
        rw [h1] at h2
        injection h2 with h2
        injection h2 with _ h2
        exact absurd h2 (by decide)
      have p7 := pA.only o7 (hnp st hstz hstq)
      have h7 := hA.only o7 (hnp si hsiz hsiq)
      have t7 := r1.other k2 (fun e => hqz (by injection e))
      have b7 : StkB w7 st si bq 32 c (put cs 0 (wds T)) := ⟨p7, h7, t7, by rw [put_length (by rw [wds_length]; have a1 := HS.out.1; have a2 := HLQ.out; omega)]; exact HLQ.out.1, by have := HLQ.out; omega, hcap⟩
      have hrd := restore_d st si bq 32 c 0 _ .returning w7 b7 (Nat.zero_le _) (Nat.zero_le _)
      have HRD := Lib.hid hrd
      have F := Lib.hid (And.intro k1 (And.intro (oA.trans (o7.mono (Q := fun k => ¬ R k ∨ k = bz) fun k h => h.elim .inr fun e => .inl (by rw [e]; exact n2))) (And.intro s4 (And.intro s5 s6))))
      have NN := Lib.hid (And.intro n1 (And.intro n2 hsiz))
      clear k1 k2 k3 xA pA hA oA n1 n2 hqz hqx hstz hsiz r1 r2 s4 s5 s6 o7 hnp hstq hsiq p7 h7 t7 b7 hrd
      go_wp2_with fail
      refine leaves_cons (f := 191) (args := #[.pointer (some ⟨st, 0, none⟩), .int .i64 0]) (by simp) (by simp [go_sem]) ?_
      refine HRD.out.mono ?_
      rintro e u' w8 ⟨rfl, rfl, m1, m2, m3⟩
      refine ⟨_, results_none rfl _ _ _, rfl, ⟨Rr.1, F.out.1.other m2 (fun e => NN.out.2.2 (by injection e with e; exact e.symm)), F.out.2.2⟩, F.out.2.1.of_grown m2 (.inl NN.out.1), hst, .inr ⟨si, bq, c, _, NN.out.1, NN.out.2.1, m1⟩⟩
end Go.Proofs.Tz

/- Contracts of reciprocalWord at the words that are met (printed by gen_d2.py). -/
namespace Go.Proofs.Tz
open Go.RowKit Mv

theorem lz_zero (y : Nat) (h : WB ≤ 2 * y) (h2 : y < WB) (w : World) : Calls Tryz.prog 248 #[.int .u64 (y : Int)] w fun e w' => e = .returned (.int .i64 0) ∧ w' = w := by
  have := Tryz.bits_LeadingZeros64 (y : Int) w (by omega) (by unfold WB at h2; omega)
  rw [Int.toNat_natCast, blen64 h h2] at this
  exact this

set_option maxHeartbeats 1000000 in
theorem bd_0 (w : World) : Calls Tryz.prog 238 #[.int .u64 8446744073709551615, .int .u64 18446744073709551615, .int .u64 10000000000000000000] w fun e w' => e = .returned (.tuple #[.int .u64 15581492618384294730, .int .u64 3374607431768211455]) ∧ ∃ q, w' = w.drewN q := by
  have a1 : bits BinOp.and IntKind.u64 10000000000000000000 4294967295 = 2313682944 := by decide
  have a2 : bits BinOp.or IntKind.u64 8446744073709551615 0 = 8446744073709551615 := by decide
  have a3 : bits BinOp.and IntKind.u64 18446744073709551615 4294967295 = 4294967295 := by decide
  have hz : ∀ w : World, Calls Tryz.prog 248 #[.int .u64 10000000000000000000] w fun e w' => e = .returned (.int .i64 0) ∧ w' = w := fun w => lz_zero 10000000000000000000 (by unfold WB; omega) (by unfold WB; omega) w
  go_enter Tryz.func238, Tryz.ntmps238
  go_wp2_with fail
  (with_reducible refine (hz _).mono ?_)
  rintro e w1 ⟨rfl, rfl⟩
  go_wp2_with fail
  refine wp_loop_rounds 2 ?_
  rw [rounds_succ]
  go_wp2_with fail
  rw [rounds_succ]
  go_wp2_with fail
  refine wp_loop_rounds 1 ?_
  rw [rounds_succ]
  go_wp2_with fail
  go_ret2
  exact ⟨by kernel_rfl, 0, rfl⟩

set_option maxHeartbeats 1000000 in
theorem bdd_0 (w : World) : Calls Tryz.prog 202 #[.int .u64 8446744073709551615, .int .u64 18446744073709551615, .int .u64 10000000000000000000] w fun e w' => e = .returned (.tuple #[.int .u64 15581492618384294730, .int .u64 3374607431768211455]) ∧ ∃ q, w' = w.drewN q := by
  have hb := fun w => bd_0 w
  go_enter Tryz.func202, Tryz.ntmps202
  go_wp2_with fail
  (with_reducible refine (hb _).mono ?_)
  rintro e w1 ⟨rfl, q, rfl⟩
  go_wp2_with fail
  go_ret2
  exact ⟨rfl, q, rfl⟩

set_option maxHeartbeats 1000000 in
theorem rec_0 : RecOk 10000000000000000000 := by
  intro w
  have a1 : bits BinOp.xor IntKind.u64 IntKind.u64.max 10000000000000000000 = 8446744073709551615 := by decide
  have hr : recip 10000000000000000000 = 15581492618384294730 := by decide +kernel
  rw [hr]
  show Calls Tryz.prog 203 #[.int .u64 10000000000000000000] w _
  clear hr
  have hz : ∀ w : World, Calls Tryz.prog 187 #[.int .u64 10000000000000000000] w fun e w' => e = .returned (.int .u64 0) ∧ w = w' := fun w => nlz_zero (d := 10000000000000000000) (by unfold WB; omega) (by unfold WB; omega) w
  have hb := fun w => bdd_0 w
  go_enter Tryz.func203, Tryz.ntmps203
  go_wp2_with fail
  (with_reducible refine (hz _).mono ?_)
  rintro e w1 ⟨rfl, rfl⟩
  go_wp2_with fail
  (with_reducible refine (hb _).mono ?_)
  rintro e w1 ⟨rfl, q, rfl⟩
  go_wp2_with fail
  go_ret
  exact ⟨rfl, q, rfl⟩

set_option maxHeartbeats 1000000 in
theorem bd_1 (w : World) : Calls Tryz.prog 238 #[.int .u64 4688533805412153852, .int .u64 18446744073709551615, .int .u64 13758210268297397763] w fun e w' => e = .returned (.tuple #[.int .u64 6286296073600901791, .int .u64 3452305046010682914]) ∧ ∃ q, w' = w.drewN q := by
  have a1 : bits BinOp.and IntKind.u64 13758210268297397763 4294967295 = 1258259971 := by decide
  have a2 : bits BinOp.or IntKind.u64 4688533805412153852 0 = 4688533805412153852 := by decide
  have a3 : bits BinOp.and IntKind.u64 18446744073709551615 4294967295 = 4294967295 := by decide
  have hz : ∀ w : World, Calls Tryz.prog 248 #[.int .u64 13758210268297397763] w fun e w' => e = .returned (.int .i64 0) ∧ w' = w := fun w => lz_zero 13758210268297397763 (by unfold WB; omega) (by unfold WB; omega) w
  go_enter Tryz.func238, Tryz.ntmps238
  go_wp2_with fail
  (with_reducible refine (hz _).mono ?_)
  rintro e w1 ⟨rfl, rfl⟩
  go_wp2_with fail
  refine wp_loop_rounds 1 ?_
  rw [rounds_succ]
  go_wp2_with fail
  refine wp_loop_rounds 1 ?_
  rw [rounds_succ]
  go_wp2_with fail
  go_ret2
  exact ⟨by kernel_rfl, 0, rfl⟩

set_option maxHeartbeats 1000000 in
theorem bdd_1 (w : World) : Calls Tryz.prog 202 #[.int .u64 4688533805412153852, .int .u64 18446744073709551615, .int .u64 13758210268297397763] w fun e w' => e = .returned (.tuple #[.int .u64 6286296073600901791, .int .u64 3452305046010682914]) ∧ ∃ q, w' = w.drewN q := by
  have hb := fun w => bd_1 w
  go_enter Tryz.func202, Tryz.ntmps202
  go_wp2_with fail
  (with_reducible refine (hb _).mono ?_)
  rintro e w1 ⟨rfl, q, rfl⟩
  go_wp2_with fail
  go_ret2
  exact ⟨rfl, q, rfl⟩

set_option maxHeartbeats 1000000 in
theorem rec_1 : RecOk 13758210268297397763 := by
  intro w
  have a1 : bits BinOp.xor IntKind.u64 IntKind.u64.max 13758210268297397763 = 4688533805412153852 := by decide
  have hr : recip 13758210268297397763 = 6286296073600901791 := by decide +kernel
  rw [hr]
  show Calls Tryz.prog 203 #[.int .u64 13758210268297397763] w _
  clear hr
  have hz : ∀ w : World, Calls Tryz.prog 187 #[.int .u64 13758210268297397763] w fun e w' => e = .returned (.int .u64 0) ∧ w = w' := fun w => nlz_zero (d := 13758210268297397763) (by unfold WB; omega) (by unfold WB; omega) w
  have hb := fun w => bdd_1 w
  go_enter Tryz.func203, Tryz.ntmps203
  go_wp2_with fail
  (with_reducible refine (hz _).mono ?_)
  rintro e w1 ⟨rfl, rfl⟩
  go_wp2_with fail
  (with_reducible refine (hb _).mono ?_)
  rintro e w1 ⟨rfl, q, rfl⟩
  go_wp2_with fail
  go_ret
  exact ⟨rfl, q, rfl⟩

set_option maxHeartbeats 1000000 in
theorem bd_2 (w : World) : Calls Tryz.prog 238 #[.int .u64 8185402070463610992, .int .u64 18446744073709551615, .int .u64 10261342003245940623] w fun e w' => e = .returned (.tuple #[.int .u64 14714841108160220095, .int .u64 9972510339297095502]) ∧ ∃ q, w' = w.drewN q := by
  have a1 : bits BinOp.and IntKind.u64 10261342003245940623 4294967295 = 1581580175 := by decide
  have a2 : bits BinOp.or IntKind.u64 8185402070463610992 0 = 8185402070463610992 := by decide
  have a3 : bits BinOp.and IntKind.u64 18446744073709551615 4294967295 = 4294967295 := by decide
  have hz : ∀ w : World, Calls Tryz.prog 248 #[.int .u64 10261342003245940623] w fun e w' => e = .returned (.int .i64 0) ∧ w' = w := fun w => lz_zero 10261342003245940623 (by unfold WB; omega) (by unfold WB; omega) w
  go_enter Tryz.func238, Tryz.ntmps238
  go_wp2_with fail
  (with_reducible refine (hz _).mono ?_)
  rintro e w1 ⟨rfl, rfl⟩
  go_wp2_with fail
  refine wp_loop_rounds 2 ?_
  rw [rounds_succ]
  go_wp2_with fail
  rw [rounds_succ]
  go_wp2_with fail
  refine wp_loop_rounds 2 ?_
  rw [rounds_succ]
  go_wp2_with fail
  rw [rounds_succ]
  go_wp2_with fail
  go_ret2
  exact ⟨by kernel_rfl, 0, rfl⟩

set_option maxHeartbeats 1000000 in
theorem bdd_2 (w : World) : Calls Tryz.prog 202 #[.int .u64 8185402070463610992, .int .u64 18446744073709551615, .int .u64 10261342003245940623] w fun e w' => e = .returned (.tuple #[.int .u64 14714841108160220095, .int .u64 9972510339297095502]) ∧ ∃ q, w' = w.drewN q := by
  have hb := fun w => bd_2 w
  go_enter Tryz.func202, Tryz.ntmps202
  go_wp2_with fail
  (with_reducible refine (hb _).mono ?_)
  rintro e w1 ⟨rfl, q, rfl⟩
  go_wp2_with fail
  go_ret2
  exact ⟨rfl, q, rfl⟩

set_option maxHeartbeats 1000000 in
theorem rec_2 : RecOk 10261342003245940623 := by
  intro w
  have a1 : bits BinOp.xor IntKind.u64 IntKind.u64.max 10261342003245940623 = 8185402070463610992 := by decide
  have hr : recip 10261342003245940623 = 14714841108160220095 := by decide +kernel
  rw [hr]
  show Calls Tryz.prog 203 #[.int .u64 10261342003245940623] w _
  clear hr
  have hz : ∀ w : World, Calls Tryz.prog 187 #[.int .u64 10261342003245940623] w fun e w' => e = .returned (.int .u64 0) ∧ w = w' := fun w => nlz_zero (d := 10261342003245940623) (by unfold WB; omega) (by unfold WB; omega) w
  have hb := fun w => bdd_2 w
  go_enter Tryz.func203, Tryz.ntmps203
  go_wp2_with fail
  (with_reducible refine (hz _).mono ?_)
  rintro e w1 ⟨rfl, rfl⟩
  go_wp2_with fail
  (with_reducible refine (hb _).mono ?_)
  rintro e w1 ⟨rfl, q, rfl⟩
  go_wp2_with fail
  go_ret
  exact ⟨rfl, q, rfl⟩

set_option maxHeartbeats 1000000 in
theorem bd_3 (w : World) : Calls Tryz.prog 238 #[.int .u64 7030622151397321374, .int .u64 18446744073709551615, .int .u64 11416121922312230241] w fun e w' => e = .returned (.tuple #[.int .u64 11360432937590044541, .int .u64 3932221046465427618]) ∧ ∃ q, w' = w.drewN q := by
  have a1 : bits BinOp.and IntKind.u64 11416121922312230241 4294967295 = 871912801 := by decide
  have a2 : bits BinOp.or IntKind.u64 7030622151397321374 0 = 7030622151397321374 := by decide
  have a3 : bits BinOp.and IntKind.u64 18446744073709551615 4294967295 = 4294967295 := by decide
  have hz : ∀ w : World, Calls Tryz.prog 248 #[.int .u64 11416121922312230241] w fun e w' => e = .returned (.int .i64 0) ∧ w' = w := fun w => lz_zero 11416121922312230241 (by unfold WB; omega) (by unfold WB; omega) w
  go_enter Tryz.func238, Tryz.ntmps238
  go_wp2_with fail
  (with_reducible refine (hz _).mono ?_)
  rintro e w1 ⟨rfl, rfl⟩
  go_wp2_with fail
  refine wp_loop_rounds 1 ?_
  rw [rounds_succ]
  go_wp2_with fail
  refine wp_loop_rounds 1 ?_
  rw [rounds_succ]
  go_wp2_with fail
  go_ret2
  exact ⟨by kernel_rfl, 0, rfl⟩

set_option maxHeartbeats 1000000 in
theorem bdd_3 (w : World) : Calls Tryz.prog 202 #[.int .u64 7030622151397321374, .int .u64 18446744073709551615, .int .u64 11416121922312230241] w fun e w' => e = .returned (.tuple #[.int .u64 11360432937590044541, .int .u64 3932221046465427618]) ∧ ∃ q, w' = w.drewN q := by
  have hb := fun w => bd_3 w
  go_enter Tryz.func202, Tryz.ntmps202
  go_wp2_with fail
  (with_reducible refine (hb _).mono ?_)
  rintro e w1 ⟨rfl, q, rfl⟩
  go_wp2_with fail
  go_ret2
  exact ⟨rfl, q, rfl⟩

set_option maxHeartbeats 1000000 in
theorem rec_3 : RecOk 11416121922312230241 := by
  intro w
  have a1 : bits BinOp.xor IntKind.u64 IntKind.u64.max 11416121922312230241 = 7030622151397321374 := by decide
  have hr : recip 11416121922312230241 = 11360432937590044541 := by decide +kernel
  rw [hr]
  show Calls Tryz.prog 203 #[.int .u64 11416121922312230241] w _
  clear hr
  have hz : ∀ w : World, Calls Tryz.prog 187 #[.int .u64 11416121922312230241] w fun e w' => e = .returned (.int .u64 0) ∧ w = w' := fun w => nlz_zero (d := 11416121922312230241) (by unfold WB; omega) (by unfold WB; omega) w
  have hb := fun w => bdd_3 w
  go_enter Tryz.func203, Tryz.ntmps203
  go_wp2_with fail
  (with_reducible refine (hz _).mono ?_)
  rintro e w1 ⟨rfl, rfl⟩
  go_wp2_with fail
  (with_reducible refine (hb _).mono ?_)
  rintro e w1 ⟨rfl, q, rfl⟩
  go_wp2_with fail
  go_ret
  exact ⟨rfl, q, rfl⟩
end Go.Proofs.Tz

/- Contract of divLarge. -/
namespace Go.Proofs.Mv
theorem low_lt {us vs : List Nat} {m kk t v1 : Nat} (hu : Ws us) (hul : us.length = m + (kk + 2)) (ht : us[m + (kk + 1)]? = some t) (htv : t < v1) (hvl : vs.length = kk + 2) (e1 : vs[kk + 1]? = some v1) : val (us.drop m) < val vs := by
  have h1 := val_split vs (j := kk + 1) (by omega)
  rw [val_drop e1, List.drop_eq_nil_of_le (by omega), val_nil] at h1
  simp only [Nat.mul_zero, Nat.add_zero] at h1
  have h2 := val_split (us.drop m) (j := kk + 1) (by rw [List.length_drop]; omega)
  have h3 := val_lt ((hu.drop m).take (kk + 1))
  rw [List.length_take, List.length_drop, Nat.min_eq_left (by omega)] at h3
  have hz : us.drop (m + (kk + 1) + 1) = [] := List.drop_eq_nil_of_le (by omega)
  rw [List.drop_drop, val_drop ht, hz, val_nil] at h2
  simp only [Nat.mul_zero, Nat.add_zero] at h2
  have h4 := Nat.mul_le_mul_left (WB ^ (kk + 1)) (show t + 1 ≤ v1 by omega)
  rw [Nat.mul_add, Nat.mul_one] at h4
  omega
theorem shl_le {us : List Nat} (hu : Ws us) : (shlL 0 us).2 ≤ 1 := by
  have h1 := shlL_val 0 us
  have h2 := val_lt hu
  rcases Nat.lt_or_ge (shlL 0 us).2 2 with g | g
  · omega
  · have := Nat.mul_le_mul_left (WB ^ us.length) g
    omega
end Go.Proofs.Mv
namespace Go.Proofs.Tz
open Go.RowKit Mv

/-- What divLarge and div leave. -/
def Divided (R : Nat → Prop) (w : World) (st bq cq : Nat) (z2 : Value) (us vs : List Nat) (e : Ending) (w' : World) : Prop :=
  ∃ br cr qs rs, e = .returned (.tuple #[.slice (some ⟨bq, 0, none⟩) qs.length cq, .slice (some ⟨br, 0, none⟩) rs.length cr]) ∧ Hold w' bq cq qs ∧ Hold w' br cr rs ∧ Ws qs ∧ Nrm qs ∧ Ws rs ∧ Nrm rs ∧ val qs = val us / val vs ∧ val rs = val us % val vs ∧
    (z2.ownBlock = some br ∨ w.heap.size ≤ br) ∧ br ≠ bq ∧ Only (fun k => ¬ R k ∨ k = bq ∨ z2.ownBlock = some k) w w' ∧ Stk0 w' st (fun k => R k ∨ k = br)

set_option maxHeartbeats 8000000 in
set_option maxRecDepth 100000 in
theorem divLarge_0 (R : Nat → Prop) (st bq cq bv cv kk mm nr v1 vt : Nat) (z2 : Value) (us vs : List Nat) (w : World) (h15 : ∀ w', Only (fun k => ¬ R k ∨ k = bq ∨ z2.ownBlock = some k) w w' → w'.cell? ⟨15, 0, none⟩ = some (.int .i64 40))
    (hS : Stk0 w st R) (hR : ∀ k, R k → k < w.heap.size) (hbq : R bq) (hbv : R bv) (hz2 : ZOk w z2) (hz2R : ∀ b, z2.ownBlock = some b → R b) (hz2q : z2.ownBlock ≠ some bq) (hz2v : z2.ownBlock ≠ some bv) (hqv : bq ≠ bv)
    (hU : Hold w bq cq us) (hV : Hold w bv cv vs) (hul : us.length = mm + (kk + 2)) (hvl : vs.length = kk + 2) (hkk : kk ≤ 30) (hmm : mm ≤ 90) (hu : Ws us) (hv : Ws vs)
    (hr1 : bits BinOp.andNot IntKind.i64 ((kk : Int) + 2 + 3) 3 = (kk : Int) + 2) (hr2 : bits BinOp.andNot IntKind.i64 (((kk + 3 : Nat) : Int) + 3) 3 = (nr : Int)) (hnr : kk + 3 ≤ nr) (hnr2 : nr ≤ 1000) (hk3 : 4 < kk + 2) (evt : vs[kk + 1]? = some vt)
    (hvt : vt = v1) (hnl : ∀ w : World, Calls Tryz.prog 187 #[.int .u64 (vt : Int)] w fun e w' => e = .returned (.int .u64 0) ∧ w = w') (hv1 : WB ≤ 2 * v1) (hrec : RecOk v1) :
    Calls Tryz.prog 173 #[.slice (some ⟨bq, 0, none⟩) (mm + (kk + 2)) cq, .pointer (some ⟨st, 0, none⟩), z2, .slice (some ⟨bq, 0, none⟩) (mm + (kk + 2)) cq, .slice (some ⟨bv, 0, none⟩) (kk + 2) cv] w (Divided R w st bq cq z2 us vs) := by
  obtain ⟨vl, hvlE⟩ : ∃ vl, vl = vs := ⟨_, rfl⟩
  obtain ⟨tt, htt⟩ : ∃ tt, tt = 0 := ⟨_, rfl⟩
  obtain ⟨ul, hulE⟩ : ∃ ul, ul = us := ⟨_, rfl⟩
  have hvll : vl.length = kk + 2 := by rw [hvlE]; exact hvl
  have hull : ul.length = mm + (kk + 2) := by rw [hulE]; exact hul
  have hvlw : Ws vl := by rw [hvlE]; exact hv
  have hulw : Ws ul := by rw [hulE]; exact hu
  have e1 : vl[kk + 1]? = some v1 := by rw [hvlE]; rw [evt, hvt]
  obtain ⟨e2v, e2⟩ : ∃ x, vl[kk]? = some x := ⟨_, List.getElem?_eq_getElem (by omega)⟩
  have htt1 : tt ≤ 1 := by omega
  have hv2 : v1 > 1 := by unfold WB at hv1; omega
  have hv1B : v1 < WB := hvlw v1 (List.mem_of_getElem? e1)
  have huw : Ws (ul ++ [tt]) := hulw.append (Ws.mk (by unfold WB; omega) Ws.nil)
  have hull2 : (ul ++ [tt]).length = mm + 1 + (kk + 2) := by rw [List.length_append, hull]; simp; omega
  have htop : (ul ++ [tt])[mm + 1 + (kk + 1)]? = some tt := by rw [List.getElem?_append_right (by omega), hull, show mm + 1 + (kk + 1) - (mm + (kk + 2)) = 0 by omega]; rfl
  have hlow := low_lt (m := mm + 1) huw hull2 htop (by omega) hvll e1
  have hvv : val vl = val vs := by
    rw [hvlE]
  have huv : val (ul ++ [tt]) = val us := by rw [val_append, hulE, htt, val_cons, val_nil]; simp
  have ctop : w.cell? ⟨bv, kk + 1, none⟩ = some (.int .u64 (vt : Int)) := hV.cell evt
  have hsv := save_zero st R w hS
  have hnt : Calls Tryz.prog 193 #[.pointer (some ⟨st, 0, none⟩), .int .i64 ((kk : Int) + 2)] w fun e w' =>
      ∃ si bq c cs, e = .returned (.slice (some ⟨bq, 0, none⟩) (kk + 2) (kk + 2)) ∧ ¬ R si ∧ ¬ R bq ∧ StkB w' st si bq (kk + 2) c cs ∧ Only (fun k => ¬ R k) w w' := nat_zero R st (kk + 2) (kk + 2) w hS hR hk3 (Nat.le_refl _) (by omega) hr1
  have HSV := Lib.hid hsv
  have HNT := Lib.hid hnt
  have HNL := Lib.hid hnl
  have HU := Lib.hid hU
  have HV := Lib.hid hV
  have HZ := Lib.hid hz2
  have HP := Lib.hid (And.intro hR (And.intro hbq (And.intro hbv (And.intro hz2R (And.intro hz2q (And.intro hz2v hqv))))))
  have HQ := Lib.hid (And.intro hvll (And.intro hull (And.intro hvlw (And.intro hulw (And.intro e1 (And.intro e2 (And.intro htt1 (And.intro huw (And.intro hull2 (And.intro htop (And.intro hlow (And.intro hvv huv))))))))))))
  have HRC := Lib.hid (And.intro hrec (And.intro hv1 hr2))
  have HE := Lib.hid (And.intro hvlE (And.intro hulE htt))
  have HUL := Lib.hid (And.intro hul (And.intro hvl (And.intro hu hv)))
  have H15 := Lib.hid h15
  have HST := Lib.hid hS
  clear hsv hnt hnl hU hV hz2 hR hbq hbv hz2R hz2q hz2v hqv hvll hull hvlw hulw e1 e2 htt1 huw hull2 htop hlow hvv huv hrec hv1 hr1 hr2 hvlE hulE htt hul hvl hu hv h15 hS evt hvt
  go_enter_defers Tryz.func173, Tryz.ntmps173
  go_wp2_with fail
  (with_reducible refine HSV.out.mono ?_)
  rintro e w1 ⟨rfl, rfl⟩
  go_wp2_with fail
  (with_reducible refine (HNL.out _).mono ?_)
  rintro e w1 ⟨rfl, rfl⟩
  go_wp2_with fail
  (with_reducible refine HNT.out.mono ?_)
  rintro e w2 ⟨si, bw, c, csw, rfl, n1, n2, n3, n4⟩
  obtain ⟨hR, hbq, hbv, hz2R, hz2q, hz2v, hqv⟩ := HP.out
  have hnp : ∀ j, R j → ¬ (¬ R j) := fun j h k => k h
  have z2' : ZOk w2 z2 := HZ.out.keep fun b e => n4.block b (HZ.out.lt e) (hnp b (hz2R b e))
  have hmk := make_any z2 (mm + (kk + 2) + 1) w2 z2' (by omega) (by omega)
  rw [show ((mm + (kk + 2) + 1 : Nat) : Int) = (mm : Int) + ((kk : Int) + 2) + 1 by omega] at hmk
  have HMK := Lib.hid hmk
  have HS2 := Lib.hid (And.intro n1 (And.intro n2 (And.intro n3 n4)))
  clear hmk z2' n1 n2 n3 n4 hR hbq hbv hz2R hz2q hz2v hqv hnp
  go_wp2_with fail
  (with_reducible refine HMK.out.mono ?_)
  rintro e w3 ⟨bu, cu, csu, rfl, m1, m2, m3, m4, m5, m6⟩
  obtain ⟨hR, hbq, hbv, hz2R, hz2q, hz2v, hqv⟩ := HP.out
  obtain ⟨n1, n2, n3, n4⟩ := HS2.out
  obtain ⟨hvll, hull, hvlw, hulw, e1, e2, htt1, huw, hull2, htop, hlow, hvv, huv⟩ := HQ.out
  obtain ⟨hul, hvl, hu, hv⟩ := HUL.out
  have hbuw : bu ≠ bw := fun e => m5.elim (fun h => n2 (hz2R bw (by rw [h, e]))) (fun h => by have := n3.inner.row.lt; omega)
  have hbuq : bu ≠ bq := fun e => m5.elim (fun h => hz2q (by rw [h, e])) (fun h => by have := hR bq hbq; have := n4.size; omega)
  have hbuv : bu ≠ bv := fun e => m5.elim (fun h => hz2v (by rw [h, e])) (fun h => by have := hR bv hbv; have := n4.size; omega)
  have hbqw : bq ≠ bw := fun e => n2 (by rw [← e]; exact hbq)
  have hbvw : bv ≠ bw := fun e => n2 (by rw [← e]; exact hbv)
  have r3 : Arr w3 bw 160 csw := n3.inner.row.below m6
  have hU3 : Hold w3 bq cq us := (HU.out.only n4 (fun h => h hbq)).below m6
  have hV3 : Hold w3 bv cv vs := (HV.out.only n4 (fun h => h hbv)).below m6
  have hwl := n3.inner.len
  have hwf := n3.inner.fit
  have hcp1 : ∀ ty, (Builtin.copy_ #[118, 118] ty #[.slice (some ⟨bw, 0, none⟩) (kk + 2) (kk + 2), .slice (some ⟨bv, 0, none⟩) (kk + 2) cv]).run Tryz.prog w3 = .ok (goInt vs.length) (w3.setRow bw (put csw 0 (wds vs)).toArray) := fun ty =>
    run_copy_wds w3 118 118 ty Tryz.underlying118 bw 0 (kk + 2) bv 0 cv (kk + 2) 160 csw vs r3 (fun i x h => by rw [Nat.zero_add]; exact hV3.cell h) (by omega) hvl.symm
  obtain ⟨w4, hw4⟩ : ∃ w4, w3.setRow bw (put csw 0 (wds vs)).toArray = w4 := ⟨_, rfl⟩
  rw [hw4] at hcp1
  have v4 : Arr w4 bw 160 (put csw 0 (wds vl)) := by rw [← hw4, HE.out.1]; exact arr_setRow r3 _
  have g4 : w3.grownBy w4 (some bw) := by rw [← hw4]; exact grown_row _ _ _
  have hU4 : Hold w4 bq cq us := hU3.grown g4 (fun e => hbqw (by injection e with e; exact e.symm))
  have u4 : Arr w4 bu 160 csu := m1.other g4 (fun e => hbuw (by injection e))
  have hcp2 : ∀ ty, (Builtin.copy_ #[118, 118] ty #[.slice (some ⟨bu, 0, none⟩) (mm + (kk + 2)) cu, .slice (some ⟨bq, 0, none⟩) (mm + (kk + 2)) cq]).run Tryz.prog w4 = .ok (goInt us.length) (w4.setRow bu (put csu 0 (wds us)).toArray) := fun ty =>
    run_copy_wds w4 118 118 ty Tryz.underlying118 bu 0 cu bq 0 cq (mm + (kk + 2)) 160 csu us u4 (fun i x h => by rw [Nat.zero_add]; exact hU4.cell h) (by omega) hul.symm
  obtain ⟨w5, hw5⟩ : ∃ w5, w4.setRow bu (put csu 0 (wds us)).toArray = w5 := ⟨_, rfl⟩
  rw [hw5] at hcp2
  have u5 : Arr w5 bu 160 (put csu 0 (wds ul)) := by rw [← hw5, HE.out.2.1]; exact arr_setRow u4 _
  have g5 : w4.grownBy w5 (some bu) := by rw [← hw5]; exact grown_row _ _ _
  obtain ⟨v0, d5⟩ := u5.get (j := mm + (kk + 2)) (by rw [put_length (by rw [wds_length]; omega)]; omega)
  have f5 := u5.free (mm + (kk + 2))
  obtain ⟨w6, hw6⟩ : ∃ w6, w5.setCell ⟨bu, mm + (kk + 2), none⟩ (.int .u64 0) = w6 := ⟨_, rfl⟩
  have hw6' : w6 = w5.setCell ⟨bu, mm + (kk + 2), none⟩ (word tt) := by rw [← hw6, HE.out.2.2]; rfl
  have i1 : (0 : Int) ≤ (mm : Int) + ((kk : Int) + 2) := by omega
  have i2 : (mm : Int) + ((kk : Int) + 2) ≤ (cu : Int) := by omega
  have i3 : ((mm : Int) + ((kk : Int) + 2)).toNat = mm + (kk + 2) := by omega
  have a6 : Arr w6 bu 160 (put csu 0 (wds (ul ++ [tt]))) := by
    rw [hw6', wds_append]
    show Arr _ bu 160 (put csu 0 (wds ul ++ [word tt]))
    rw [put_snoc (by rw [wds_length]; omega), wds_length, Nat.zero_add, hull]
    exact u5.set _ _
  have g6 : w5.grownBy w6 (some bu) := by rw [hw6']; exact grownBy_set _ _ _ _
  have g56 : w4.grownBy w6 (some bu) := grown_trans g5 g6
  have v6 : Arr w6 bw 160 (put csw 0 (wds vl)) := v4.other g56 (fun e => hbuw (by injection e with e; exact e.symm))
  have hU6 : Hold w6 bq cq us := hU4.grown g56 (fun e => hbuq (by injection e))
  have o6 : Only (fun k => ¬ R k ∨ k = bq ∨ z2.ownBlock = some k) w w6 := by
    refine ⟨g56.os.trans (g4.os.trans (m6.os.trans n4.os)), g56.tape.trans (g4.tape.trans (m6.tape.trans n4.tape)), g56.output.trans (g4.output.trans (m6.output.trans n4.output)), Nat.le_trans n4.size (Nat.le_trans m6.size (Nat.le_trans g4.size g56.size)), fun j hj hn => ?_⟩
    have h2 : j < w2.heap.size := Nat.lt_of_lt_of_le hj n4.size
    have h3 : j < w3.heap.size := Nat.lt_of_lt_of_le h2 m6.size
    have h4 : j < w4.heap.size := Nat.lt_of_lt_of_le h3 g4.size
    have e1 := n4.block j hj (fun h => hn (.inl h))
    have e2 := m6.block j h2
    have e3 := g4.block j h3 (fun e => hn (.inl (by injection e with e; rw [e]; exact n2)))
    have e4 := g56.block j h4 (fun e => by
      injection e with e
      exact m5.elim (fun h => hn (.inr (.inr (by rw [h, e])))) (fun h => by omega))
    exact e4.trans (e3.trans (e2.trans e1))
  have p6 : Arr w6 st 194 [.pointer (some ⟨si, 0, none⟩)] := ((n3.ptr.below m6).other g4 (fun e => n3.ne.2 (by injection e))).other g56 (fun e => arr_ne (n3.ptr.below m6) m1 (by decide) (by injection e))
  have s6 : Arr w6 si 227 [.slice (some ⟨bw, 0, none⟩) (kk + 2) c] := ((n3.inner.hdr.below m6).other g4 (fun e => n3.inner.ne (by injection e))).other g56 (fun e => arr_ne (n3.inner.hdr.below m6) m1 (by decide) (by injection e))
  have b6 : StkB w6 st si bw (kk + 2) c (put csw 0 (wds vl)) := ⟨p6, s6, v6, by rw [put_length (by rw [wds_length]; omega)]; exact hwl, hwf, n3.inner.cap⟩
  obtain ⟨cq6, q1, q2, q3, q4, q5⟩ := hU6
  have hal := alias_no bq (mm + (kk + 2)) cq bu (mm + (kk + 2) + 1) cu 160 160 cq6 (put csu 0 (wds (ul ++ [tt]))) (Ne.symm hbuq) (by omega) (by omega) (by omega) (by omega) w6 q1 a6
  have hmq := fun w => make_fits (some ⟨bq, 0, none⟩) (mm + (kk + 2)) cq (mm + 1) (by omega) (by omega) w
  rw [show ((mm + 1 : Nat) : Int) = (mm : Int) + 1 by omega] at hmq
  have c15 := H15.out w6 o6
  have HAL := Lib.hid hal
  have HMQ := Lib.hid hmq
  have A6 := Lib.hid (And.intro a6 (And.intro v6 (And.intro q1 (And.intro q2 (And.intro o6 (And.intro b6 (And.intro m2 (And.intro m3 (And.intro m4 (And.intro m5 (And.intro q5 q3)))))))))))
  have BB := Lib.hid (And.intro hbuw (And.intro hbuq (And.intro hbqw (And.intro n1 (And.intro n2 (And.intro n4 m6))))))
  clear hR hbq hbv hz2R hz2q hz2v hqv n1 n2 n3 n4 hvll hull hvlw hulw e1 e2 htt1 huw hull2 htop hlow hvv huv hul hvl hu hv hbuw hbuq hbuv hbqw hbvw r3 hU3 hV3 hwl hwf hU4 u4 v4 g4 g5 g6 g56 v6 o6 p6 s6 b6 q1 q2 q3 q4 q5 hal hmq a6 u5 m1 m2 m3 m4 m5 m6 hw6'
  go_wp2_with fail
  (with_reducible refine HAL.out.mono ?_)
  rintro e w7 ⟨rfl, kq, hw7⟩
  have c15' : w7.cell? ⟨15, 0, none⟩ = some (.int .i64 40) := by rw [hw7]; exact c15
  have hk40 : (kk : Int) + 2 < 40 := by omega
  obtain ⟨a6, v6, q1, q2, o6, b6, m2, m3, m4, m5, q5, q3⟩ := A6.out
  obtain ⟨hvll, hull, hvlw, hulw, e1, e2, htt1, huw, hull2, htop, hlow, hvv, huv⟩ := HQ.out
  obtain ⟨hbuw, hbuq, hbqw, n1, n2, n4, m6⟩ := BB.out
  have b7 : StkB w7 st si bw (kk + 2) c (put csw 0 (wds vl)) := by rw [hw7]; exact ⟨b6.ptr.drewN kq, b6.inner.hdr.drewN kq, b6.inner.row.drewN kq, b6.inner.len, b6.inner.fit, b6.inner.cap⟩
  have hwl : (put csw 0 (wds vl)).length = c := b6.inner.len
  have hwf := b6.inner.fit
  obtain ⟨hul, hvl, hu, hv⟩ := HUL.out
  have hdb := divBasic_any bq cq st si bw c bu cu kk (mm + 1) nr v1 e2v vl (ul ++ [tt]) cq6 (put csw 0 (wds vl)) (put csu 0 (wds (ul ++ [tt]))) w7 (by rw [hw7]; exact q1.drewN kq) (by omega) (by rw [hw7]; exact a6.drewN kq) (Sub.put_in (Nat.zero_le _)) hull2 (by rw [put_length (by rw [wds_length]; omega)]; omega) (by omega) b7 (Sub.put_in (Nat.zero_le _)) hvll HRC.out.2.2 hnr hnr2 (by omega) (by omega) e1 e2 HRC.out.2.1 HRC.out.1 huw hvlw hlow (Ne.symm hbuq) hbqw hbuw tt (by rw [show mm + 1 + kk + 1 = mm + 1 + (kk + 1) by omega]; exact htop) (by omega)
  rw [show mm + 1 + (kk + 2) = mm + (kk + 2) + 1 by omega] at hdb
  have HDB := Lib.hid hdb
  have HW7 := Lib.hid hw7
  clear hdb hw7 a6 v6 q1 q2 o6 b6 m2 m3 m4 m5 q5 q3 hvll hull hvlw hulw e1 e2 htt1 huw hull2 htop hlow hvv huv hbuw hbuq hbqw n1 n2 n4 m6 b7 hwl hwf c15 hul hvl hu hv
  go_wp2_with fail
  (with_reducible refine (HMQ.out _).mono ?_)
  rintro e w7' ⟨rfl, rfl⟩
  go_wp2_with fail
  (with_reducible refine HDB.out.mono ?_)
  rintro e w8 ⟨rfl, qh, uf, bw', c', csw', d1, d2, d3, d4, d5, d6, d7, d8, d9, d10, d11⟩
  obtain ⟨a6, v6, q1, q2, o6, b6, m2, m3, m4, m5, q5, q3⟩ := A6.out
  obtain ⟨hvll, hull, hvlw, hulw, e1, e2, htt1, huw, hull2, htop, hlow, hvv, huv⟩ := HQ.out
  obtain ⟨hbuw, hbuq, hbqw, n1, n2, n4, m6⟩ := BB.out
  obtain ⟨hul, hvl, hu, hv⟩ := HUL.out
  obtain ⟨hR, hbq, hbv, hz2R, hz2q, hz2v, hqv⟩ := HP.out
  have hqn := norm_any bq 0 cq qh w8 (fun i y hy => d1.cell (by
    rw [put_get_in (Nat.zero_le _) (by rw [wds_length]; exact (List.getElem?_eq_some_iff.1 hy).1)]
    exact wds_get hy)) (by omega) (by omega)
  rw [d2] at hqn
  have hQ8 : Hold w8 bq cq (normL qh) := by rw [← q2]; exact Hold.norm d1 (by omega) (by omega)
  have hpl : (put csu 0 (wds (ul ++ [tt]))).length = cu := by rw [put_length (by rw [wds_length]; omega)]; exact m2
  have hu8 : Arr w8 bu 160 (put csu 0 (wds uf)) := by
    rw [put_put (by rw [wds_length, wds_length, d6, hull2]; omega) (by rw [wds_length]; omega)] at d5; exact d5
  have o8 : Only (fun k => ¬ R k ∨ k = bq ∨ z2.ownBlock = some k) w w8 := by
    have hd7 := HW7.out
    have o7 : Only (fun k => ¬ R k ∨ k = bq ∨ z2.ownBlock = some k) w w7 := by rw [hd7]; exact o6.drewN kq
    refine ⟨d11.os.trans o7.os, d11.tape.trans o7.tape, d11.output.trans o7.output, Nat.le_trans o7.size d11.size, fun j hj hn => ?_⟩
    refine (d11.block j (Nat.lt_of_lt_of_le hj o7.size) fun h => ?_).trans (o7.block j hj hn)
    rcases h with h | h | h | h
    · exact hn (.inr (.inl h))
    · exact m5.elim (fun e => hn (.inr (.inr (by rw [h, e])))) (fun e => by have := n4.size; omega)
    · exact hn (.inl (by rw [h]; exact n1))
    · exact hn (.inl (by rw [h]; exact n2))
  have hbr : z2.ownBlock = some bu ∨ w.heap.size ≤ bu := m5.elim .inl (fun h => .inr (Nat.le_trans n4.size h))
  have hR8 : ¬ R bw' := by
    rcases d10 with h | h
    · rw [h]; exact n2
    · exact fun hr => by have h1 := hR _ hr; have h2 := o6.size; have h3 : w7.heap.size = w6.heap.size := by rw [HW7.out]; rfl
                         omega
  have hbn : bw' ≠ bu := by
    rcases d10 with h | h
    · rw [h]; exact Ne.symm hbuw
    · exact fun e => by have h1 := a6.lt; have h3 : w7.heap.size = w6.heap.size := by rw [HW7.out]; rfl
                        omega
  have hsb : si ≠ bu := arr_ne d9.inner.hdr hu8 (by decide)
  have hstb : st ≠ bu := arr_ne d9.ptr hu8 (by decide)
  have hrn := norm_any bu 0 cu uf w8 (fun i y hy => hu8.cell (by
    rw [put_get_in (Nat.zero_le _) (by rw [wds_length]; exact (List.getElem?_eq_some_iff.1 hy).1)]
    exact wds_get hy)) (by omega) (by omega)
  rw [d6] at hrn
  have hrs := restore_d st si bw' (kk + 2) c' 0 csw' .returning w8 d9 (Nat.zero_le _) (Nat.zero_le _)
  have hRh : Hold w8 bu cu (normL uf) := by rw [← m2]; exact Hold.norm hu8 (by omega) (by omega)
  have hvr : val (normL uf) = val us % val vs := by rw [val_normL, d8, huv, hvv]
  have hvq : val (normL qh) = val us / val vs := by rw [val_normL, d4, huv, hvv]
  have hwr : Ws (normL uf) := d7.norm
  have HRN := Lib.hid hrn
  have HRS := Lib.hid hrs
  have HQN := Lib.hid hqn
  have st9 := d9.ne
  have HF := Lib.hid (And.intro hQ8 (And.intro hRh (And.intro d3.norm (And.intro hwr (And.intro hvq (And.intro hvr (And.intro hbr (And.intro hbuq (And.intro o8 (And.intro hR8 (And.intro hbn (And.intro hsb (And.intro n1 (And.intro HST.out.1 hstb))))))))))))))
  clear hqn hQ8 hpl hu8 o8 hbr hR8 hbn hsb hstb hrn hrs hRh hvr hvq hwr d1 d2 d3 d4 d5 d6 d7 d8 d9 d10 d11 a6 v6 q1 q2 o6 b6 m2 m3 m4 m5 q5 q3 hvll hull hvlw hulw e1 e2 htt1 huw hull2 htop hlow hvv huv hbuw hbuq hbqw n1 n2 n4 m6 hul hvl hu hv hR hbq hbv hz2R hz2q hz2v hqv st9
  go_wp2_with fail
  (with_reducible refine HQN.out.mono ?_)
  rintro e w9 ⟨rfl, rfl⟩
  go_wp2_with fail
  (with_reducible refine HRN.out.mono ?_)
  rintro e w9 ⟨rfl, rfl⟩
  go_wp2_with fail
  refine leaves_cons (f := 191) (args := #[.pointer (some ⟨st, 0, none⟩), .int .i64 0]) (by simp) (by simp [go_sem]) ?_
  refine HRS.out.mono ?_
  rintro e u' wz ⟨rfl, rfl, k1, k2, k3⟩
  obtain ⟨f1, f2, f3, f4, f5, f6, f7, f8, f9, f10, f11, f12, f13, f14, f15⟩ := HF.out
  exact ⟨_, results_tmp2 rfl _ _ _, bu, cu, normL qh, normL uf, rfl, f1.grown k2 (fun e => f13 (by injection e with e; rw [e]; exact HP.out.2.1)), f2.grown k2 (fun e => f12 (by injection e)), f3, nrm_normL _, f4, nrm_normL _, f5, f6, f7, f8, f9.of_grown k2 (.inl f13), fun h => h.elim f14 f15, .inr ⟨si, bw', c', csw', fun h => h.elim f13 f12, fun h => h.elim f10 f11, k1⟩⟩


set_option maxHeartbeats 8000000 in
set_option maxRecDepth 100000 in
theorem divLarge_1 (R : Nat → Prop) (st bq cq bv cv kk mm nr v1 vt : Nat) (z2 : Value) (us vs : List Nat) (w : World) (h15 : ∀ w', Only (fun k => ¬ R k ∨ k = bq ∨ z2.ownBlock = some k) w w' → w'.cell? ⟨15, 0, none⟩ = some (.int .i64 40))
    (hS : Stk0 w st R) (hR : ∀ k, R k → k < w.heap.size) (hbq : R bq) (hbv : R bv) (hz2 : ZOk w z2) (hz2R : ∀ b, z2.ownBlock = some b → R b) (hz2q : z2.ownBlock ≠ some bq) (hz2v : z2.ownBlock ≠ some bv) (hqv : bq ≠ bv)
    (hU : Hold w bq cq us) (hV : Hold w bv cv vs) (hul : us.length = mm + (kk + 2)) (hvl : vs.length = kk + 2) (hkk : kk ≤ 30) (hmm : mm ≤ 90) (hu : Ws us) (hv : Ws vs)
    (hr1 : bits BinOp.andNot IntKind.i64 ((kk : Int) + 2 + 3) 3 = (kk : Int) + 2) (hr2 : bits BinOp.andNot IntKind.i64 (((kk + 3 : Nat) : Int) + 3) 3 = (nr : Int)) (hnr : kk + 3 ≤ nr) (hnr2 : nr ≤ 1000) (hk3 : 4 < kk + 2) (evt : vs[kk + 1]? = some vt)
    (hvt2 : vt < HB) (e1s : (shlL 0 vs).1[kk + 1]? = some v1) (hnl : ∀ w : World, Calls Tryz.prog 187 #[.int .u64 (vt : Int)] w fun e w' => e = .returned (.int .u64 1) ∧ w = w') (hv1 : WB ≤ 2 * v1) (hrec : RecOk v1) :
    Calls Tryz.prog 173 #[.slice (some ⟨bq, 0, none⟩) (mm + (kk + 2)) cq, .pointer (some ⟨st, 0, none⟩), z2, .slice (some ⟨bq, 0, none⟩) (mm + (kk + 2)) cq, .slice (some ⟨bv, 0, none⟩) (kk + 2) cv] w (Divided R w st bq cq z2 us vs) := by
  obtain ⟨vl, hvlE⟩ : ∃ vl, vl = (shlL 0 vs).1 := ⟨_, rfl⟩
  obtain ⟨tt, htt⟩ : ∃ tt, tt = (shlL 0 us).2 := ⟨_, rfl⟩
  obtain ⟨ul, hulE⟩ : ∃ ul, ul = (shlL 0 us).1 := ⟨_, rfl⟩
  have hvll : vl.length = kk + 2 := by rw [hvlE]; rw [shlL_len]; exact hvl
  have hull : ul.length = mm + (kk + 2) := by rw [hulE]; rw [shlL_len]; exact hul
  have hvlw : Ws vl := by rw [hvlE]; exact shlL_ws _ _
  have hulw : Ws ul := by rw [hulE]; exact shlL_ws _ _
  have e1 : vl[kk + 1]? = some v1 := by rw [hvlE]; exact e1s
  obtain ⟨e2v, e2⟩ : ∃ x, vl[kk]? = some x := ⟨_, List.getElem?_eq_getElem (by omega)⟩
  have htt1 : tt ≤ 1 := by rw [htt]; exact shl_le hu
  have hv2 : v1 > 1 := by unfold WB at hv1; omega
  have hv1B : v1 < WB := hvlw v1 (List.mem_of_getElem? e1)
  have huw : Ws (ul ++ [tt]) := hulw.append (Ws.mk (by unfold WB; omega) Ws.nil)
  have hull2 : (ul ++ [tt]).length = mm + 1 + (kk + 2) := by rw [List.length_append, hull]; simp; omega
  have htop : (ul ++ [tt])[mm + 1 + (kk + 1)]? = some tt := by rw [List.getElem?_append_right (by omega), hull, show mm + 1 + (kk + 1) - (mm + (kk + 2)) = 0 by omega]; rfl
  have hlow := low_lt (m := mm + 1) huw hull2 htop (by omega) hvll e1
  have hvv : val vl = 2 * val vs := by
    have h1 := shlL_val 0 vs
    have h2 : (shlL 0 vs).2 = 0 := by rw [shl_out hv (n := kk + 1) (by omega) evt]; exact Nat.div_eq_of_lt hvt2
    rw [h2, ← hvlE] at h1; omega
  have huv : val (ul ++ [tt]) = 2 * val us := by
    have h1 := shlL_val 0 us
    rw [val_append, val_cons, val_nil, hulE, htt, shlL_len]; omega
  have ctop : w.cell? ⟨bv, kk + 1, none⟩ = some (.int .u64 (vt : Int)) := hV.cell evt
  have hsv := save_zero st R w hS
  have hnt : Calls Tryz.prog 193 #[.pointer (some ⟨st, 0, none⟩), .int .i64 ((kk : Int) + 2)] w fun e w' =>
      ∃ si bq c cs, e = .returned (.slice (some ⟨bq, 0, none⟩) (kk + 2) (kk + 2)) ∧ ¬ R si ∧ ¬ R bq ∧ StkB w' st si bq (kk + 2) c cs ∧ Only (fun k => ¬ R k) w w' := nat_zero R st (kk + 2) (kk + 2) w hS hR hk3 (Nat.le_refl _) (by omega) hr1
  have HSV := Lib.hid hsv
  have HNT := Lib.hid hnt
  have HNL := Lib.hid hnl
  have HU := Lib.hid hU
  have HV := Lib.hid hV
  have HZ := Lib.hid hz2
  have HP := Lib.hid (And.intro hR (And.intro hbq (And.intro hbv (And.intro hz2R (And.intro hz2q (And.intro hz2v hqv))))))
  have HQ := Lib.hid (And.intro hvll (And.intro hull (And.intro hvlw (And.intro hulw (And.intro e1 (And.intro e2 (And.intro htt1 (And.intro huw (And.intro hull2 (And.intro htop (And.intro hlow (And.intro hvv huv))))))))))))
  have HRC := Lib.hid (And.intro hrec (And.intro hv1 hr2))
  have HE := Lib.hid (And.intro hvlE (And.intro hulE htt))
  have HUL := Lib.hid (And.intro hul (And.intro hvl (And.intro hu hv)))
  have H15 := Lib.hid h15
  have HST := Lib.hid hS
  clear hsv hnt hnl hU hV hz2 hR hbq hbv hz2R hz2q hz2v hqv hvll hull hvlw hulw e1 e2 htt1 huw hull2 htop hlow hvv huv hrec hv1 hr1 hr2 hvlE hulE htt hul hvl hu hv h15 hS evt hvt2 e1s
  go_enter_defers Tryz.func173, Tryz.ntmps173
  go_wp2_with fail
  (with_reducible refine HSV.out.mono ?_)
  rintro e w1 ⟨rfl, rfl⟩
  go_wp2_with fail
  (with_reducible refine (HNL.out _).mono ?_)
  rintro e w1 ⟨rfl, rfl⟩
  go_wp2_with fail
  (with_reducible refine HNT.out.mono ?_)
  rintro e w2 ⟨si, bw, c, csw, rfl, n1, n2, n3, n4⟩
  obtain ⟨hR, hbq, hbv, hz2R, hz2q, hz2v, hqv⟩ := HP.out
  have hnp : ∀ j, R j → ¬ (¬ R j) := fun j h k => k h
  have z2' : ZOk w2 z2 := HZ.out.keep fun b e => n4.block b (HZ.out.lt e) (hnp b (hz2R b e))
  have hmk := make_any z2 (mm + (kk + 2) + 1) w2 z2' (by omega) (by omega)
  rw [show ((mm + (kk + 2) + 1 : Nat) : Int) = (mm : Int) + ((kk : Int) + 2) + 1 by omega] at hmk
  have HMK := Lib.hid hmk
  have HS2 := Lib.hid (And.intro n1 (And.intro n2 (And.intro n3 n4)))
  clear hmk z2' n1 n2 n3 n4 hR hbq hbv hz2R hz2q hz2v hqv hnp
  go_wp2_with fail
  (with_reducible refine HMK.out.mono ?_)
  rintro e w3 ⟨bu, cu, csu, rfl, m1, m2, m3, m4, m5, m6⟩
  obtain ⟨hR, hbq, hbv, hz2R, hz2q, hz2v, hqv⟩ := HP.out
  obtain ⟨n1, n2, n3, n4⟩ := HS2.out
  obtain ⟨hvll, hull, hvlw, hulw, e1, e2, htt1, huw, hull2, htop, hlow, hvv, huv⟩ := HQ.out
  obtain ⟨hul, hvl, hu, hv⟩ := HUL.out
  have hbuw : bu ≠ bw := fun e => m5.elim (fun h => n2 (hz2R bw (by rw [h, e]))) (fun h => by have := n3.inner.row.lt; omega)
  have hbuq : bu ≠ bq := fun e => m5.elim (fun h => hz2q (by rw [h, e])) (fun h => by have := hR bq hbq; have := n4.size; omega)
  have hbuv : bu ≠ bv := fun e => m5.elim (fun h => hz2v (by rw [h, e])) (fun h => by have := hR bv hbv; have := n4.size; omega)
  have hbqw : bq ≠ bw := fun e => n2 (by rw [← e]; exact hbq)
  have hbvw : bv ≠ bw := fun e => n2 (by rw [← e]; exact hbv)
  have r3 : Arr w3 bw 160 csw := n3.inner.row.below m6
  have hU3 : Hold w3 bq cq us := (HU.out.only n4 (fun h => h hbq)).below m6
  have hV3 : Hold w3 bv cv vs := (HV.out.only n4 (fun h => h hbv)).below m6
  have hwl := n3.inner.len
  have hwf := n3.inner.fit
  have hl1 := lshVU_any bw 0 (kk + 2) bv 0 cv vs 160 csw w3 r3 ⟨fun i x h => by rw [Nat.zero_add]; exact hV3.cell h, .inl hbvw, hV3.lt⟩ (by omega) (by omega) (by omega) hv
  rw [hvl, ← HE.out.1] at hl1
  have HL1 := Lib.hid hl1
  have i1 : (0 : Int) ≤ (mm : Int) + ((kk : Int) + 2) := by omega
  have i2 : (mm : Int) + ((kk : Int) + 2) ≤ (cu : Int) := by omega
  have i3 : ((mm : Int) + ((kk : Int) + 2)).toNat = mm + (kk + 2) := by omega
  clear hl1
  go_wp2_with fail
  (with_reducible refine HL1.out.mono ?_)
  rintro e w4 ⟨rfl, v4, g4, hz4⟩
  have hU4 : Hold w4 bq cq us := hU3.grown g4 (fun e => hbqw (by injection e with e; exact e.symm))
  have u4 : Arr w4 bu 160 csu := m1.other g4 (fun e => hbuw (by injection e))
  have hl2 := lshVU_any bu 0 cu bq 0 cq us 160 csu w4 u4 ⟨fun i x h => by rw [Nat.zero_add]; exact hU4.cell h, .inl (Ne.symm hbuq), hU4.lt⟩ (by omega) (by omega) (by omega) hu
  rw [hul, ← HE.out.2.1, ← HE.out.2.2] at hl2
  have HL2 := Lib.hid hl2
  clear hl2 hz4
  go_wp2_with fail
  (with_reducible refine HL2.out.mono ?_)
  rintro e w5 ⟨rfl, u5, g5, hz5⟩
  obtain ⟨v0, d5⟩ := u5.get (j := mm + (kk + 2)) (by rw [put_length (by rw [wds_length]; omega)]; omega)
  have f5 := u5.free (mm + (kk + 2))
  obtain ⟨w6, hw6⟩ : ∃ w6, w5.setCell ⟨bu, mm + (kk + 2), none⟩ (.int .u64 (tt : Int)) = w6 := ⟨_, rfl⟩
  have hw6' : w6 = w5.setCell ⟨bu, mm + (kk + 2), none⟩ (word tt) := hw6.symm
  have a6 : Arr w6 bu 160 (put csu 0 (wds (ul ++ [tt]))) := by
    rw [hw6', wds_append]
    show Arr _ bu 160 (put csu 0 (wds ul ++ [word tt]))
    rw [put_snoc (by rw [wds_length]; omega), wds_length, Nat.zero_add, hull]
    exact u5.set _ _
  have g6 : w5.grownBy w6 (some bu) := by rw [hw6']; exact grownBy_set _ _ _ _
  have g56 : w4.grownBy w6 (some bu) := grown_trans g5 g6
  have v6 : Arr w6 bw 160 (put csw 0 (wds vl)) := v4.other g56 (fun e => hbuw (by injection e with e; exact e.symm))
  clear hz5
  have hU6 : Hold w6 bq cq us := hU4.grown g56 (fun e => hbuq (by injection e))
  have o6 : Only (fun k => ¬ R k ∨ k = bq ∨ z2.ownBlock = some k) w w6 := by
    refine ⟨g56.os.trans (g4.os.trans (m6.os.trans n4.os)), g56.tape.trans (g4.tape.trans (m6.tape.trans n4.tape)), g56.output.trans (g4.output.trans (m6.output.trans n4.output)), Nat.le_trans n4.size (Nat.le_trans m6.size (Nat.le_trans g4.size g56.size)), fun j hj hn => ?_⟩
    have h2 : j < w2.heap.size := Nat.lt_of_lt_of_le hj n4.size
    have h3 : j < w3.heap.size := Nat.lt_of_lt_of_le h2 m6.size
    have h4 : j < w4.heap.size := Nat.lt_of_lt_of_le h3 g4.size
    have e1 := n4.block j hj (fun h => hn (.inl h))
    have e2 := m6.block j h2
    have e3 := g4.block j h3 (fun e => hn (.inl (by injection e with e; rw [e]; exact n2)))
    have e4 := g56.block j h4 (fun e => by
      injection e with e
      exact m5.elim (fun h => hn (.inr (.inr (by rw [h, e])))) (fun h => by omega))
    exact e4.trans (e3.trans (e2.trans e1))
  have p6 : Arr w6 st 194 [.pointer (some ⟨si, 0, none⟩)] := ((n3.ptr.below m6).other g4 (fun e => n3.ne.2 (by injection e))).other g56 (fun e => arr_ne (n3.ptr.below m6) m1 (by decide) (by injection e))
  have s6 : Arr w6 si 227 [.slice (some ⟨bw, 0, none⟩) (kk + 2) c] := ((n3.inner.hdr.below m6).other g4 (fun e => n3.inner.ne (by injection e))).other g56 (fun e => arr_ne (n3.inner.hdr.below m6) m1 (by decide) (by injection e))
  have b6 : StkB w6 st si bw (kk + 2) c (put csw 0 (wds vl)) := ⟨p6, s6, v6, by rw [put_length (by rw [wds_length]; omega)]; exact hwl, hwf, n3.inner.cap⟩
  obtain ⟨cq6, q1, q2, q3, q4, q5⟩ := hU6
  have hal := alias_no bq (mm + (kk + 2)) cq bu (mm + (kk + 2) + 1) cu 160 160 cq6 (put csu 0 (wds (ul ++ [tt]))) (Ne.symm hbuq) (by omega) (by omega) (by omega) (by omega) w6 q1 a6
  have hmq := fun w => make_fits (some ⟨bq, 0, none⟩) (mm + (kk + 2)) cq (mm + 1) (by omega) (by omega) w
  rw [show ((mm + 1 : Nat) : Int) = (mm : Int) + 1 by omega] at hmq
  have c15 := H15.out w6 o6
  have HAL := Lib.hid hal
  have HMQ := Lib.hid hmq
  have A6 := Lib.hid (And.intro a6 (And.intro v6 (And.intro q1 (And.intro q2 (And.intro o6 (And.intro b6 (And.intro m2 (And.intro m3 (And.intro m4 (And.intro m5 (And.intro q5 q3)))))))))))
  have BB := Lib.hid (And.intro hbuw (And.intro hbuq (And.intro hbqw (And.intro n1 (And.intro n2 (And.intro n4 m6))))))
  clear hR hbq hbv hz2R hz2q hz2v hqv n1 n2 n3 n4 hvll hull hvlw hulw e1 e2 htt1 huw hull2 htop hlow hvv huv hul hvl hu hv hbuw hbuq hbuv hbqw hbvw r3 hU3 hV3 hwl hwf hU4 u4 v4 g4 g5 g6 g56 v6 o6 p6 s6 b6 q1 q2 q3 q4 q5 hal hmq a6 u5 m1 m2 m3 m4 m5 m6 hw6'
  go_wp2_with fail
  (with_reducible refine HAL.out.mono ?_)
  rintro e w7 ⟨rfl, kq, hw7⟩
  have c15' : w7.cell? ⟨15, 0, none⟩ = some (.int .i64 40) := by rw [hw7]; exact c15
  have hk40 : (kk : Int) + 2 < 40 := by omega
  obtain ⟨a6, v6, q1, q2, o6, b6, m2, m3, m4, m5, q5, q3⟩ := A6.out
  obtain ⟨hvll, hull, hvlw, hulw, e1, e2, htt1, huw, hull2, htop, hlow, hvv, huv⟩ := HQ.out
  obtain ⟨hbuw, hbuq, hbqw, n1, n2, n4, m6⟩ := BB.out
  have b7 : StkB w7 st si bw (kk + 2) c (put csw 0 (wds vl)) := by rw [hw7]; exact ⟨b6.ptr.drewN kq, b6.inner.hdr.drewN kq, b6.inner.row.drewN kq, b6.inner.len, b6.inner.fit, b6.inner.cap⟩
  have hwl : (put csw 0 (wds vl)).length = c := b6.inner.len
  have hwf := b6.inner.fit
  obtain ⟨hul, hvl, hu, hv⟩ := HUL.out
  have hdb := divBasic_any bq cq st si bw c bu cu kk (mm + 1) nr v1 e2v vl (ul ++ [tt]) cq6 (put csw 0 (wds vl)) (put csu 0 (wds (ul ++ [tt]))) w7 (by rw [hw7]; exact q1.drewN kq) (by omega) (by rw [hw7]; exact a6.drewN kq) (Sub.put_in (Nat.zero_le _)) hull2 (by rw [put_length (by rw [wds_length]; omega)]; omega) (by omega) b7 (Sub.put_in (Nat.zero_le _)) hvll HRC.out.2.2 hnr hnr2 (by omega) (by omega) e1 e2 HRC.out.2.1 HRC.out.1 huw hvlw hlow (Ne.symm hbuq) hbqw hbuw tt (by rw [show mm + 1 + kk + 1 = mm + 1 + (kk + 1) by omega]; exact htop) (by omega)
  rw [show mm + 1 + (kk + 2) = mm + (kk + 2) + 1 by omega] at hdb
  have HDB := Lib.hid hdb
  have HW7 := Lib.hid hw7
  clear hdb hw7 a6 v6 q1 q2 o6 b6 m2 m3 m4 m5 q5 q3 hvll hull hvlw hulw e1 e2 htt1 huw hull2 htop hlow hvv huv hbuw hbuq hbqw n1 n2 n4 m6 b7 hwl hwf c15 hul hvl hu hv
  go_wp2_with fail
  (with_reducible refine (HMQ.out _).mono ?_)
  rintro e w7' ⟨rfl, rfl⟩
  go_wp2_with fail
  (with_reducible refine HDB.out.mono ?_)
  rintro e w8 ⟨rfl, qh, uf, bw', c', csw', d1, d2, d3, d4, d5, d6, d7, d8, d9, d10, d11⟩
  obtain ⟨a6, v6, q1, q2, o6, b6, m2, m3, m4, m5, q5, q3⟩ := A6.out
  obtain ⟨hvll, hull, hvlw, hulw, e1, e2, htt1, huw, hull2, htop, hlow, hvv, huv⟩ := HQ.out
  obtain ⟨hbuw, hbuq, hbqw, n1, n2, n4, m6⟩ := BB.out
  obtain ⟨hul, hvl, hu, hv⟩ := HUL.out
  obtain ⟨hR, hbq, hbv, hz2R, hz2q, hz2v, hqv⟩ := HP.out
  have hqn := norm_any bq 0 cq qh w8 (fun i y hy => d1.cell (by
    rw [put_get_in (Nat.zero_le _) (by rw [wds_length]; exact (List.getElem?_eq_some_iff.1 hy).1)]
    exact wds_get hy)) (by omega) (by omega)
  rw [d2] at hqn
  have hQ8 : Hold w8 bq cq (normL qh) := by rw [← q2]; exact Hold.norm d1 (by omega) (by omega)
  have hpl : (put csu 0 (wds (ul ++ [tt]))).length = cu := by rw [put_length (by rw [wds_length]; omega)]; exact m2
  have hu8 : Arr w8 bu 160 (put csu 0 (wds uf)) := by
    rw [put_put (by rw [wds_length, wds_length, d6, hull2]; omega) (by rw [wds_length]; omega)] at d5; exact d5
  have o8 : Only (fun k => ¬ R k ∨ k = bq ∨ z2.ownBlock = some k) w w8 := by
    have hd7 := HW7.out
    have o7 : Only (fun k => ¬ R k ∨ k = bq ∨ z2.ownBlock = some k) w w7 := by rw [hd7]; exact o6.drewN kq
    refine ⟨d11.os.trans o7.os, d11.tape.trans o7.tape, d11.output.trans o7.output, Nat.le_trans o7.size d11.size, fun j hj hn => ?_⟩
    refine (d11.block j (Nat.lt_of_lt_of_le hj o7.size) fun h => ?_).trans (o7.block j hj hn)
    rcases h with h | h | h | h
    · exact hn (.inr (.inl h))
    · exact m5.elim (fun e => hn (.inr (.inr (by rw [h, e])))) (fun e => by have := n4.size; omega)
    · exact hn (.inl (by rw [h]; exact n1))
    · exact hn (.inl (by rw [h]; exact n2))
  have hbr : z2.ownBlock = some bu ∨ w.heap.size ≤ bu := m5.elim .inl (fun h => .inr (Nat.le_trans n4.size h))
  have hR8 : ¬ R bw' := by
    rcases d10 with h | h
    · rw [h]; exact n2
    · exact fun hr => by have h1 := hR _ hr; have h2 := o6.size; have h3 : w7.heap.size = w6.heap.size := by rw [HW7.out]; rfl
                         omega
  have hbn : bw' ≠ bu := by
    rcases d10 with h | h
    · rw [h]; exact Ne.symm hbuw
    · exact fun e => by have h1 := a6.lt; have h3 : w7.heap.size = w6.heap.size := by rw [HW7.out]; rfl
                        omega
  have hsb : si ≠ bu := arr_ne d9.inner.hdr hu8 (by decide)
  have hstb : st ≠ bu := arr_ne d9.ptr hu8 (by decide)
  have hrs0 := rshVU_any bu cu cu uf 160 (put csu 0 (wds uf)) w8 hu8 (Sub.put_in (Nat.zero_le _)) (by rw [put_length (by rw [wds_length]; omega)]; omega) (by omega) (by omega) d7
  rw [d6, put_put (by rw [wds_length, wds_length, shrL_len]) (by rw [wds_length]; omega)] at hrs0
  obtain ⟨uh, huh⟩ : ∃ uh, uh = shrL uf := ⟨_, rfl⟩
  rw [← huh] at hrs0
  have huhl : uh.length = mm + (kk + 2) + 1 := by rw [huh, shrL_len, d6]
  have huhw : Ws uh := by rw [huh]; exact shrL_ws d7
  have hvr : val (normL uh) = val us % val vs := by rw [val_normL, huh, shrL_val, d8, huv, hvv, Nat.mul_mod_mul_left]; omega
  have hvq : val (normL qh) = val us / val vs := by rw [val_normL, d4, huv, hvv, Nat.mul_div_mul_left _ _ (by omega)]
  have hwr : Ws (normL uh) := huhw.norm
  have HR0 := Lib.hid hrs0
  have hstb' := hstb
  have HQN := Lib.hid hqn
  have HF0 := Lib.hid (And.intro d9 (And.intro m2 (And.intro m3 (And.intro m4 (And.intro huhl d3.norm)))))
  have HF := Lib.hid (And.intro hQ8 (And.intro hwr (And.intro hvq (And.intro hvr (And.intro hbr (And.intro hbuq (And.intro o8 (And.intro hR8 (And.intro hbn (And.intro hsb (And.intro n1 (And.intro HST.out.1 hstb))))))))))))
  clear hqn hQ8 hpl hu8 o8 hbr hR8 hbn hsb hstb hstb' hrs0 hvr hvq hwr huh huhl huhw d1 d2 d3 d4 d5 d6 d7 d8 d9 d10 d11 a6 v6 q1 q2 o6 b6 m2 m3 m4 m5 q5 q3 hvll hull hvlw hulw e1 e2 htt1 huw hull2 htop hlow hvv huv hbuw hbuq hbqw n1 n2 n4 m6 hul hvl hu hv hR hbq hbv hz2R hz2q hz2v hqv
  go_wp2_with fail
  (with_reducible refine HQN.out.mono ?_)
  rintro e w9 ⟨rfl, rfl⟩
  go_wp2_with fail
  (with_reducible refine HR0.out.mono ?_)
  rintro e w9 ⟨⟨cc, rfl⟩, x1, x2, x3⟩
  obtain ⟨d9, m2, m3, m4, huhl, d3n⟩ := HF0.out
  obtain ⟨hQ8, hwr, hvq, hvr, hbr, hbuq, o8, hR8, hbn, hsb, n1, hst, hstb⟩ := HF.out
  have hrn := norm_any bu 0 cu uh w9 (fun i y hy => x1.cell (by
    rw [put_get_in (Nat.zero_le _) (by rw [wds_length]; exact (List.getElem?_eq_some_iff.1 hy).1)]
    exact wds_get hy)) (by omega) (by omega)
  rw [huhl] at hrn
  have b9 : StkB w9 st si bw' (kk + 2) c' csw' := ⟨d9.ptr.other x2 (fun e => hstb (by injection e)), d9.inner.hdr.other x2 (fun e => hsb (by injection e)), d9.inner.row.other x2 (fun e => hbn (by injection e)), d9.inner.len, d9.inner.fit, d9.inner.cap⟩
  have hrs := restore_d st si bw' (kk + 2) c' 0 csw' .returning w9 b9 (Nat.zero_le _) (Nat.zero_le _)
  have hRh : Hold w9 bu cu (normL uh) := by rw [← m2]; exact Hold.norm x1 (by omega) (by omega)
  have o9 : Only (fun k => ¬ R k ∨ k = bq ∨ z2.ownBlock = some k) w w9 := by
    refine ⟨x2.os.trans o8.os, x2.tape.trans o8.tape, x2.output.trans o8.output, Nat.le_trans o8.size x2.size, fun j hj hn => ?_⟩
    refine (x2.block j (Nat.lt_of_lt_of_le hj o8.size) fun h => ?_).trans (o8.block j hj hn)
    injection h with h
    exact hbr.elim (fun e => hn (.inr (.inr (by rw [h, e])))) (fun e => by omega)
  have hQ9 : Hold w9 bq cq (normL qh) := hQ8.grown x2 (fun e => hbuq (by injection e))
  have HRN := Lib.hid hrn
  have HRS := Lib.hid hrs
  have HG := Lib.hid (And.intro hQ9 (And.intro hRh (And.intro d3n (And.intro hwr (And.intro hvq (And.intro hvr (And.intro hbr (And.intro hbuq (And.intro o9 (And.intro hR8 (And.intro hbn (And.intro hsb (And.intro n1 (And.intro hst hstb))))))))))))))
  clear HF
  have HF := HG
  clear HG hrn b9 hrs hRh o9 hQ9 d9 m2 m3 m4 huhl d3n hQ8 hwr hvq hvr hbr hbuq o8 hR8 hbn hsb n1 hst hstb x1 x2 x3
  go_wp2_with fail
  (with_reducible refine HRN.out.mono ?_)
  rintro e w10 ⟨rfl, rfl⟩
  go_wp2_with fail
  refine leaves_cons (f := 191) (args := #[.pointer (some ⟨st, 0, none⟩), .int .i64 0]) (by simp) (by simp [go_sem]) ?_
  refine HRS.out.mono ?_
  rintro e u' wz ⟨rfl, rfl, k1, k2, k3⟩
  obtain ⟨f1, f2, f3, f4, f5, f6, f7, f8, f9, f10, f11, f12, f13, f14, f15⟩ := HF.out
  exact ⟨_, results_tmp2 rfl _ _ _, bu, cu, normL qh, normL uh, rfl, f1.grown k2 (fun e => f13 (by injection e with e; rw [e]; exact HP.out.2.1)), f2.grown k2 (fun e => f12 (by injection e)), f3, nrm_normL _, f4, nrm_normL _, f5, f6, f7, f8, f9.of_grown k2 (.inl f13), fun h => h.elim f14 f15, .inr ⟨si, bw', c', csw', fun h => h.elim f13 f12, fun h => h.elim f10 f11, k1⟩⟩


end Go.Proofs.Tz

/- Contract of nat.sqr at sixteen words. -/
namespace Go.Proofs.Tz
open Go.RowKit Mv

theorem Stk0.new {R : Nat → Prop} {w w' : World} {st : Nat} (h : Stk0 w st R) (hb : Below w.heap.size w w') {b : Nat} (hn : w.heap.size ≤ b) : Stk0 w' st (fun k => R k ∨ k = b) :=
  (h.mono (Q := fun k => R k ∨ k = b) fun k hk hq => hq.elim id fun e => by omega).below hb

set_option maxHeartbeats 4000000 in
set_option maxRecDepth 100000 in
theorem sqr_16 (R : Nat → Prop) (st bx cx : Nat) (xs : List Nat) (w : World) (c13 : w.cell? ⟨13, 0, none⟩ = some (.int .i64 12)) (c14 : w.cell? ⟨14, 0, none⟩ = some (.int .i64 80)) (hS : Stk0 w st R) (hR : ∀ k, R k → k < w.heap.size) (hbx : R bx)
    (hX : Hold w bx cx xs) (hxl : xs.length = 16) (hx : Ws xs) :
    Calls Tryz.prog 147 #[.slice none 0 0, .pointer (some ⟨st, 0, none⟩), .slice (some ⟨bx, 0, none⟩) 16 cx] w fun e w' =>
      ∃ b c ps, e = .returned (.slice (some ⟨b, 0, none⟩) ps.length c) ∧ Hold w' b c ps ∧ Ws ps ∧ Nrm ps ∧ val ps = val xs * val xs ∧ w.heap.size ≤ b ∧ Only (fun k => ¬ R k) w w' ∧ Stk0 w' st (fun k => R k ∨ k = b) := by
  have hal := alias_nil (some ⟨bx, 0, none⟩) 16 cx w
  have hmk : ∀ k, Calls Tryz.prog 149 #[.slice none 0 0, .int .i64 32] (w.drewN k) (Made (w.drewN k) (.slice none 0 0) 32) := fun k => make_any (.slice none 0 0) 32 (w.drewN k) (ZOk.nil _) (by omega) (by omega)
  have HAL := Lib.hid hal
  have HMK := Lib.hid hmk
  have HX := Lib.hid hX
  have HN := Lib.hid (And.intro hxl (And.intro hx (And.intro hR hbx)))
  have HS := Lib.hid hS
  have HC := Lib.hid (And.intro c13 c14)
  clear hal hmk hX hxl hx c13 c14 hS hR hbx
  go_enter_defers Tryz.func147, Tryz.ntmps147
  go_wp2_with fail
  (with_reducible refine HAL.out.mono ?_)
  rintro e w1 ⟨rfl, k, rfl⟩
  go_wp2_with fail
  (with_reducible refine (HMK.out _).mono ?_)
  rintro e w2 ⟨b, c, cs, rfl, m1, m2, m3, m4, m5, m6⟩
  have hb : w.heap.size ≤ b := m5.elim (fun e => by cases e) id
  have hB2 : Below w.heap.size w w2 := (below_drewN w.heap.size w k).trans m6
  obtain ⟨hxl, hx, hR, hbx⟩ := HN.out
  have hbn : bx ≠ b := by have := HX.out.lt; omega
  have g13 := cell_keep hB2 HC.out.1
  have g14 := cell_keep hB2 HC.out.2
  have hbs := basicSqr_16 (fun k => R k ∨ k = b) st b c bx cx xs cs w2 g13 (HS.out.new hB2 hb) (fun k hk => hk.elim (fun h => Nat.lt_of_lt_of_le (hR k h) hB2.size) (fun e => by rw [e]; exact m1.lt)) (.inr rfl) (.inl hbx) hbn m1 (by omega) m2 (HX.out.below hB2) hxl hx
  have HBS := Lib.hid hbs
  have HM := Lib.hid (And.intro m2 (And.intro m3 (And.intro m4 (And.intro hB2 hb))))
  clear hbs m1 m2 m3 m4 m5 m6 hB2 hb hbn hxl hx hR hbx
  go_wp2_with fail
  (with_reducible refine HBS.out.mono ?_)
  rintro e w3 ⟨rfl, ⟨ps, p1, p2, p3, p4⟩, p5, p6⟩
  obtain ⟨m2, m3, m4, hB2, hb⟩ := HM.out
  have hno := norm_any b 0 c ps w3 (fun i y hy => p1.cell (by
    rw [put_get_in (by omega) (by rw [wds_length]; exact (List.getElem?_eq_some_iff.1 hy).1)]
    exact wds_get hy)) (by omega) (by omega)
  rw [p2] at hno
  have hfin : Hold w3 b c (normL ps) ∧ Ws (normL ps) ∧ Nrm (normL ps) ∧ val (normL ps) = val xs * val xs ∧ w.heap.size ≤ b ∧ Only (fun k => ¬ R k) w w3 ∧ Stk0 w3 st (fun k => R k ∨ k = b) := by
    refine ⟨?_, p3.norm, nrm_normL _, by rw [val_normL]; exact p4, hb, ?_, p6⟩
    · rw [← m2]
      exact Hold.norm p1 (by omega) (by omega)
    · refine ⟨p5.os.trans hB2.os, p5.tape.trans hB2.tape, p5.output.trans hB2.output, Nat.le_trans hB2.size p5.size, fun j hj hp => ?_⟩
      refine (p5.block j (Nat.lt_of_lt_of_le hj hB2.size) (fun h => ?_)).trans (hB2.block j hj)
      rcases h with h | h
      · exact hp fun hr => h (.inl hr)
      · omega
  have HNO := Lib.hid hno
  have HF := Lib.hid hfin
  clear hno hfin p1 p2 p3 p4 p5 p6 m2 m3 m4 hB2 hb g13 g14
  go_wp2_with fail
  (with_reducible refine HNO.out.mono ?_)
  rintro e w4 ⟨rfl, rfl⟩
  go_wp2_with fail
  exact ⟨_, results_tmp rfl _ _ _, b, c, normL ps, rfl, HF.out⟩
end Go.Proofs.Tz

/- What the table of divisors needs: set in place, numbers of the table; no walk of the table yet. -/
namespace Go.Proofs.Mv
theorem nrm_of_val {ws : List Nat} {n : Nat} (hw : Ws ws) (hl : ws.length = n + 1) (h : WB ^ n ≤ val ws) : Nrm ws := by
  obtain ⟨x, hx⟩ : ∃ x, ws[n]? = some x := ⟨_, List.getElem?_eq_getElem (by omega)⟩
  obtain ⟨hj, he⟩ := List.getElem?_eq_some_iff.1 hx
  have hsp := List.take_append_getElem (l := ws) (i := n) hj
  rw [he, List.take_of_length_le (by omega : ws.length ≤ n + 1)] at hsp
  have h1 := val_split ws (j := n) (by omega)
  have h2 := val_lt (hw.take n)
  rw [List.length_take, Nat.min_eq_left (by omega)] at h2
  rw [val_drop hx, List.drop_eq_nil_of_le (by omega), val_nil, Nat.mul_zero, Nat.add_zero] at h1
  rw [← hsp]
  refine nrm_of_top ?_
  intro h0
  rw [h0, Nat.mul_zero] at h1
  omega
/-- The first power of ten that is tried for the e-th divisor. -/
def nd0 : Nat → Nat
  | 0 => 152
  | 1 => 308
  | _ => 616
theorem nd0_facts : ∀ e, e < 3 → WB ^ (nw e - 1) ≤ 10 ^ nd0 e ∧ 10 ^ nd e < WB ^ nw e ∧ WB ^ nw e ≤ 10 ^ (nd e + 1) ∧ nd0 e ≤ nd e ∧ nd e ≤ nd0 e + 2
  | 0, _ => by decide +kernel
  | 1, _ => by decide +kernel
  | 2, _ => by decide +kernel
theorem nd0_next : ∀ e, e + 1 < 3 → nd0 (e + 1) = 2 * nd e ∧ nw (e + 1) = 2 * nw e
  | 0, _ => by decide
  | 1, _ => by decide
/-- Ten times a power of ten in the words of the e-th divisor: a carry where it does not fit. -/
theorem times_ten {ws : List Nat} {e D : Nat} (he : e < 3) (hw : Ws ws) (hl : ws.length = nw e) (hv : val ws = 10 ^ D) (_h0 : nd0 e ≤ D) (_h1 : D ≤ nd e) :
    (D < nd e → (mulAddL 10 0 ws).2 = 0 ∧ val (mulAddL 10 0 ws).1 = 10 ^ (D + 1)) ∧ (D = nd e → (mulAddL 10 0 ws).2 ≠ 0) := by
  obtain ⟨f1, f2, f3, f4, f5⟩ := nd0_facts e he
  have hm := mulAddL_val 10 ws 0
  rw [hl, hv, Nat.add_zero] at hm
  have h10 : 10 * 10 ^ D = 10 ^ (D + 1) := by rw [Nat.pow_succ, Nat.mul_comm]
  rw [h10] at hm
  have hlt := val_lt (mulAddL_ws (show 10 < WB by unfold WB; omega) hw 0 WB_pos).1
  rw [mulAddL_len, hl] at hlt
  constructor
  · intro hd
    have hle : 10 ^ (D + 1) ≤ 10 ^ nd e := Nat.pow_le_pow_right (by omega) hd
    have hc : (mulAddL 10 0 ws).2 = 0 := by
      rcases Nat.eq_zero_or_pos (mulAddL 10 0 ws).2 with g | g
      · exact g
      · have := Nat.mul_le_mul_left (WB ^ nw e) g
        omega
    rw [hc, Nat.mul_zero, Nat.add_zero] at hm
    exact ⟨hc, hm⟩
  · intro hd hc
    rw [hc, Nat.mul_zero, Nat.add_zero, hd] at hm
    omega
theorem bits_top : ∀ e, e < 3 → 64 * (nw e - 1) + Lib.bitLen (10 ^ nd e / WB ^ (nw e - 1)) = nb e ∧ 10 ^ nd e / WB ^ (nw e - 1) < WB ∧ 10 ^ nd e / WB ^ (nw e - 1) ≠ 0
  | 0, _ => by
    have h : Lib.bitLen (10 ^ nd 0 / WB ^ (nw 0 - 1)) = 64 := Tz.blen_eq (by decide +kernel) (by decide +kernel) (by decide +kernel) (by decide +kernel)
    rw [h]
    exact ⟨rfl, by decide +kernel, by decide +kernel⟩
  | 1, _ => by
    have h : Lib.bitLen (10 ^ nd 1 / WB ^ (nw 1 - 1)) = 64 := Tz.blen_eq (by decide +kernel) (by decide +kernel) (by decide +kernel) (by decide +kernel)
    rw [h]
    exact ⟨rfl, by decide +kernel, by decide +kernel⟩
  | 2, _ => by
    have h : Lib.bitLen (10 ^ nd 2 / WB ^ (nw 2 - 1)) = 63 := Tz.blen_eq (by decide +kernel) (by decide +kernel) (by decide +kernel) (by decide +kernel)
    rw [h]
    exact ⟨rfl, by decide +kernel, by decide +kernel⟩
end Go.Proofs.Mv
namespace Go.Proofs.Tz
open Go.RowKit Mv

set_option maxHeartbeats 1000000 in
/-- set where the storage is large enough. -/
theorem set_own (b l c bx cx n : Nat) (xs : List Nat) (cs : List Value) (w : World) (hA : Arr w b 160 cs) (hc : cs.length = c) (hcb : c ≤ 100000000) (hX : Hold w bx cx xs) (hn : xs.length = n) (hnc : n ≤ c) :
    Calls Tryz.prog 121 #[.slice (some ⟨b, 0, none⟩) l c, .slice (some ⟨bx, 0, none⟩) n cx] w fun e w' => e = .returned (.slice (some ⟨b, 0, none⟩) n c) ∧ Arr w' b 160 (put cs 0 (wds xs)) ∧ w.grownBy w' (some b) ∧ w'.heap.size = w.heap.size := by
  have hcopy : ∀ ty : TypeId, (Builtin.copy_ #[118, 118] ty #[.slice (some ⟨b, 0, none⟩) n c, .slice (some ⟨bx, 0, none⟩) n cx]).run Tryz.prog w = .ok (goInt xs.length) (w.setRow b (put cs 0 (wds xs)).toArray) := fun ty =>
    run_copy_wds w 118 118 ty Tryz.underlying118 b 0 c bx 0 cx n 160 cs xs hA (fun i x h => by rw [Nat.zero_add]; exact hX.cell h) (by omega) hn.symm
  have hmk := make_fits (some ⟨b, 0, none⟩) l c n hnc (by omega) w
  have HMK := Lib.hid hmk
  have HA := Lib.hid hA
  clear hA hX hmk
  go_enter Tryz.func121, Tryz.ntmps121
  go_wp2_with fail
  (with_reducible refine HMK.out.mono ?_)
  rintro e w1 ⟨rfl, rfl⟩
  go_wp2_with fail
  go_ret
  exact ⟨rfl, arr_setRow HA.out _, grown_row _ _ _, size_setRow _ _ _⟩

/-- The zero cells of k entries of the table. -/
def tz (k : Nat) : List Value := (madeCells #[.slice none 0 0, .int .i64 0, .int .i64 0] (k * 3)).toList
theorem tz_length (k : Nat) : (tz k).length = k * 3 := by simp [tz, madeCells]
theorem tz_get (k e : Nat) (h : e < k) : (tz k)[e * 3]? = some (.slice none 0 0) ∧ (tz k)[e * 3 + 1]? = some (.int .i64 0) ∧ (tz k)[e * 3 + 2]? = some (.int .i64 0) := by
  have h1 : e * 3 % 3 = 0 := by omega
  have h2 : (e * 3 + 1) % 3 = 1 := by omega
  have h3 : (e * 3 + 2) % 3 = 2 := by omega
  have a1 : e * 3 < k * 3 := by omega
  have a2 : e * 3 + 1 < k * 3 := by omega
  have a3 : e * 3 + 2 < k * 3 := by omega
  refine ⟨?_, ?_, ?_⟩
  · simp [tz, madeCells, a1]
  · simp [tz, madeCells, a2, h2]
  · simp [tz, madeCells, a3, h3]
theorem run_mkt (k : Nat) (hk : k ≤ 100) (w : World) : (Instr.makeSlice 165 (.int .i64 (k : Int)) (.int .i64 (k : Int))).run Tryz.prog w = .ok (.slice (some ⟨w.heap.size, 0, none⟩) k k) (w.alloc (.cells (tz k).toArray 196)) := by
  have hinfo : (Tryz.prog.info? 196).map (fun i => (i.zero.map (·.cells), i.size, decide (i.bytes ≤ 1000))) = some (some #[.slice none 0 0, .int .i64 0, .int .i64 0], 3, true) := by kernel_rfl
  obtain ⟨i, hi, hzz⟩ := Option.map_eq_some_iff.1 hinfo
  simp only [Prod.mk.injEq] at hzz
  obtain ⟨hz, hs, hb⟩ := hzz
  obtain ⟨z, hz1, hz2⟩ := Option.map_eq_some_iff.1 hz
  have hb2 : i.bytes ≤ 1000 := of_decide_eq_true hb
  have hbk : (i.bytes : Int) * (k : Int) ≤ 281474976710656 := by
    rw [← Int.natCast_mul]
    have := Nat.mul_le_mul hb2 hk
    omega
  have hr := run_make (P := Tryz.prog) w 165 196 i z Tryz.underlying165 hi hz1 .i64 .i64 k k (by omega) (by omega) hbk (by omega)
  simp only [Int.toNat_natCast, hs, hz2] at hr
  rw [hr]
  simp [tz]
end Go.Proofs.Tz

/- Plain steps of the table of divisors. -/
namespace Go.Proofs.Tz
open Go.RowKit Mv

theorem nw_le (e : Nat) : nw e ≤ 32 := by
  match e with
  | 0 => decide
  | 1 => decide
  | e + 2 => exact Nat.le_refl _
theorem nd_le (e : Nat) : nd e ≤ 616 := by
  match e with
  | 0 => decide
  | 1 => decide
  | e + 2 => exact Nat.le_refl _
/-- The first i of k entries of the table. -/
structure Ents (w : World) (T : List Value) (k i : Nat) (be ce : Nat → Nat) : Prop where
  len : T.length = k * 3
  num : ∀ e, e < i → T[e * 3]? = some (.slice (some ⟨be e, 0, none⟩) (nw e) (ce e)) ∧ T[e * 3 + 1]? = some (.int .i64 (nb e : Nat)) ∧ T[e * 3 + 2]? = some (.int .i64 (nd e : Nat))
  rest : ∀ e, i ≤ e → e < k → T[e * 3]? = some (.slice none 0 0) ∧ T[e * 3 + 1]? = some (.int .i64 0) ∧ T[e * 3 + 2]? = some (.int .i64 0)
  hold : ∀ e, e < i → ∃ vs, Hold w (be e) (ce e) vs ∧ Ws vs ∧ Nrm vs ∧ val vs = 10 ^ nd e

/-- What is kept of the table's blocks and of R. -/
def RR (R : Nat → Prop) (bt i : Nat) (be : Nat → Nat) : Nat → Prop := fun j => R j ∨ j = bt ∨ ∃ e, e < i ∧ j = be e

theorem exp_tab (st : Nat) (w : World) (c13 : w.cell? ⟨13, 0, none⟩ = some (.int .i64 12)) (c14 : w.cell? ⟨14, 0, none⟩ = some (.int .i64 80)) :
    Calls Tryz.prog 146 #[.slice none 0 0, .pointer (some ⟨st, 0, none⟩), .int .u64 10000000000000000000, .int .u64 8] w fun e w' =>
      ∃ b c ps, e = .returned (.slice (some ⟨b, 0, none⟩) (nw 0) c) ∧ Hold w' b c ps ∧ Ws ps ∧ val ps = 10 ^ nd0 0 ∧ ps.length = nw 0 ∧ w.heap.size ≤ b ∧ Below w.heap.size w w' := by
  refine (expWW_8 st w c13 c14).mono ?_
  rintro e w' ⟨b, c, ps, rfl, h1, h2, h3, h4, h5, h6⟩
  have hl : ps.length = nw 0 := len19 (k := 7) h2 h3 h4 (by decide +kernel) (by decide +kernel)
  exact ⟨b, c, ps, by rw [hl], h1, h2, h4, hl, h5, h6⟩

theorem sqr_tab (Q : Nat → Prop) (st e b0 c0 : Nat) (vs : List Nat) (w : World) (c13 : w.cell? ⟨13, 0, none⟩ = some (.int .i64 12)) (c14 : w.cell? ⟨14, 0, none⟩ = some (.int .i64 80)) (hS : Stk0 w st Q) (hQ : ∀ k, Q k → k < w.heap.size) (hb : Q b0) (he : e + 1 < 3)
    (hX : Hold w b0 c0 vs) (hw : Ws vs) (hn : Nrm vs) (hv : val vs = 10 ^ nd e) :
    Calls Tryz.prog 147 #[.slice none 0 0, .pointer (some ⟨st, 0, none⟩), .slice (some ⟨b0, 0, none⟩) (nw e) c0] w fun r w' =>
      ∃ b c ps, r = .returned (.slice (some ⟨b, 0, none⟩) (nw (e + 1)) c) ∧ Hold w' b c ps ∧ Ws ps ∧ val ps = 10 ^ nd0 (e + 1) ∧ ps.length = nw (e + 1) ∧ w.heap.size ≤ b ∧ Only (fun k => ¬ Q k) w w' ∧ Stk0 w' st (fun k => Q k ∨ k = b) := by
  have hl := nw_len (by omega) hw hn hv
  have hlen : ∀ ps : List Nat, Ws ps → Nrm ps → val ps = val vs * val vs → val ps = 10 ^ nd0 (e + 1) ∧ ps.length = nw (e + 1) := fun ps p1 p2 p3 => by
    have hval : val ps = 10 ^ nd0 (e + 1) := by rw [p3, hv, (nd0_next e he).1, Nat.two_mul, Nat.pow_add]
    obtain ⟨f1, f2, f3, f4, f5⟩ := nd0_facts (e + 1) he
    have hp := nw_pos (e + 1) he
    have hlt : val ps < WB ^ (nw (e + 1) - 1 + 1) := by
      rw [hval, show nw (e + 1) - 1 + 1 = nw (e + 1) by omega]
      exact Nat.lt_of_le_of_lt (Nat.pow_le_pow_right (by omega) f4) f2
    have := len_of_bounds (k := nw (e + 1) - 1) p1 p2 (by rw [hval]; exact f1) hlt
    clear f1 f2 f3 hlt
    exact ⟨hval, by omega⟩
  rcases (by omega : e = 0 ∨ e = 1) with rfl | rfl
  · refine (sqr_small (.slice none 0 0) (.pointer (some ⟨st, 0, none⟩)) b0 c0 8 vs w c13 c14 (ZOk.nil _) (by simp [Value.ownBlock]) hX hl (by omega) (by omega) hw).mono ?_
    rintro r w' ⟨b, c, ps, rfl, g1, g2, g3, g4, g5, g6, g7⟩
    obtain ⟨l1, l2⟩ := hlen ps g2 g3 g4
    have hbn : w.heap.size ≤ b := g6.elim (fun e => by cases e) id
    have hB : Below w.heap.size w w' := below_grown g7 (fun k e => by cases e) (Nat.le_refl _)
    exact ⟨b, c, ps, by rw [l2], g1, g2, l1, l2, hbn, (Only.refl _ _).below hB, hS.new hB hbn⟩
  · refine (sqr_16 Q st b0 c0 vs w c13 c14 hS hQ hb hX hl hw).mono ?_
    rintro r w' ⟨b, c, ps, rfl, g1, g2, g3, g4, g5, g6, g7⟩
    obtain ⟨l1, l2⟩ := hlen ps g2 g3 g4
    exact ⟨b, c, ps, by rw [l2], g1, g2, l1, l2, g5, g6, g7⟩

/-- An entry on its way: the divisor so far, D zeros. -/
structure Half (R : Nat → Prop) (w w3 : World) (st bt k ii : Nat) (T T3 : List Value) (be ce : Nat → Nat) (b c D : Nat) (ps : List Nat) : Prop where
  row : Arr w3 bt 196 T3
  len : T3.length = k * 3
  c0 : T3[ii * 3]? = some (.slice (some ⟨b, 0, none⟩) (nw ii) c)
  c1 : T3[ii * 3 + 1]? = some (.int .i64 0)
  c2 : T3[ii * 3 + 2]? = some (.int .i64 (D : Nat))
  oth : ∀ j, j ≠ ii * 3 → j ≠ ii * 3 + 1 → j ≠ ii * 3 + 2 → T3[j]? = T[j]?
  hold : Hold w3 b c ps
  ws : Ws ps
  plen : ps.length = nw ii
  pv : val ps = 10 ^ D
  dlo : nd0 ii ≤ D
  dhi : D ≤ nd ii
  fresh : bt < b ∧ ∀ e, e < ii → be e < b
  only : Only (fun k => ¬ R k) w w3
  stk : Stk0 w3 st (fun j => RR R bt ii be j ∨ j = b)
  old : ∀ e, e < ii → ∃ vs, Hold w3 (be e) (ce e) vs ∧ Ws vs ∧ Nrm vs ∧ val vs = 10 ^ nd e
theorem Half.cells {R : Nat → Prop} {w w3 w4 : World} {st bt k ii : Nat} {T T3 : List Value} {be ce : Nat → Nat} {b c D : Nat} {ps : List Nat} (h : Half R w w3 st bt k ii T T3 be ce b c D ps)
    (hk : ∀ j, j = bt ∨ j = b ∨ (∃ e, e < ii ∧ j = be e) → w4.heap[j]? = w3.heap[j]?) (ho : Only (fun k => ¬ R k) w w4) (hs : Stk0 w4 st (fun j => RR R bt ii be j ∨ j = b)) : Half R w w4 st bt k ii T T3 be ce b c D ps :=
  ⟨(hk bt (.inl rfl)).trans h.row, h.len, h.c0, h.c1, h.c2, h.oth, h.hold.keep (hk b (.inr (.inl rfl))), h.ws, h.plen, h.pv, h.dlo, h.dhi, h.fresh, ho, hs, fun e he => by
    obtain ⟨vs, v1, v2⟩ := h.old e he
    exact ⟨vs, v1.keep (hk _ (.inr (.inr ⟨e, he, rfl⟩))), v2⟩⟩
theorem Half.lt {R : Nat → Prop} {w w3 : World} {st bt k ii : Nat} {T T3 : List Value} {be ce : Nat → Nat} {b c D : Nat} {ps : List Nat} (h : Half R w w3 st bt k ii T T3 be ce b c D ps) :
    ∀ j, j = bt ∨ j = b ∨ (∃ e, e < ii ∧ j = be e) → j < w3.heap.size := by
  rintro j (rfl | rfl | ⟨e, he, rfl⟩)
  · exact h.row.lt
  · exact h.hold.lt
  · obtain ⟨vs, v1, _⟩ := h.old e he
    exact v1.lt
theorem Half.below {R : Nat → Prop} {w w3 w4 : World} {st bt k ii : Nat} {T T3 : List Value} {be ce : Nat → Nat} {b c D : Nat} {ps : List Nat} (h : Half R w w3 st bt k ii T T3 be ce b c D ps) (hb : Below w3.heap.size w3 w4) : Half R w w4 st bt k ii T T3 be ce b c D ps :=
  h.cells (fun j hj => hb.block j (h.lt j hj)) (h.only.below hb) (h.stk.below hb)
/-- Something is written to the copy alone. -/
theorem Half.copy {R : Nat → Prop} {w w3 w4 : World} {st bt k ii : Nat} {T T3 : List Value} {be ce : Nat → Nat} {b c D bl : Nat} {ps : List Nat} (h : Half R w w3 st bt k ii T T3 be ce b c D ps) (hg : w3.grownBy w4 (some bl)) (hbl : b < bl) (hR : ¬ R bl)
    (hs : Stk0 w3 st (fun j => (RR R bt ii be j ∨ j = b) ∨ j = bl)) : Half R w w4 st bt k ii T T3 be ce b c D ps ∧ Stk0 w4 st (fun j => (RR R bt ii be j ∨ j = b) ∨ j = bl) := by
  have hs4 := hs.only (P := fun k => k = bl) ((Only.refl _ _).of_grown hg rfl) (fun k hk => .inr hk)
  refine ⟨h.cells (fun j hj => hg.block j (h.lt j hj) (fun e => ?_)) (h.only.of_grown hg hR) (hs4.mono fun k _ hk => .inl hk), hs4⟩
  have e : j = bl := by injection e
  have h1 := h.fresh.1
  rcases hj with h2 | h2 | ⟨e', he, h2⟩
  · omega
  · omega
  · have := h.fresh.2 e' he; omega
/-- One zero more. -/
theorem Half.step {R : Nat → Prop} {w wr w5 w6 w7 w8 : World} {st bt k ii : Nat} {T T5 : List Value} {be ce : Nat → Nat} {b c D bl cl : Nat} {qs qs' : List Nat} (h : Half R w wr st bt k ii T T5 be ce b c D qs) (hii : ii < k) (hbl : b < bl) (hR : ¬ R bl) (hRb : ¬ R b) (hRt : ¬ R bt)
    (hs : Stk0 wr st (fun j => (RR R bt ii be j ∨ j = b) ∨ j = bl)) (g5 : wr.grownBy w5 (some bl)) (a5 : Hold w5 bl cl qs') (g6 : w5.grownBy w6 (some b)) (a6 : Hold w6 b c qs') (hD : D < nd ii) (q1 : Ws qs') (q2 : qs'.length = nw ii) (q3 : val qs' = 10 ^ (D + 1))
    (h7 : w7 = w6.setCell ⟨bt, ii * 3, none⟩ (.slice (some ⟨b, 0, none⟩) (nw ii) c)) (h8 : w8 = w7.setCell ⟨bt, ii * 3 + 2, none⟩ (.int .i64 ((D + 1 : Nat) : Int))) :
    Half R w w8 st bt k ii T ((T5.set (ii * 3) (.slice (some ⟨b, 0, none⟩) (nw ii) c)).set (ii * 3 + 2) (.int .i64 ((D + 1 : Nat) : Int))) be ce b c (D + 1) qs' ∧ Hold w8 bl cl qs' ∧ Stk0 w8 st (fun j => (RR R bt ii be j ∨ j = b) ∨ j = bl) := by
  obtain ⟨k5, s5⟩ := h.copy g5 hbl hR hs
  have hfr := h.fresh
  have s6 := s5.only (P := fun k => k = b) ((Only.refl _ _).of_grown g6 rfl) (fun k hk => .inl (.inr hk))
  have o6 := k5.only.of_grown g6 hRb
  have t6 : Arr w6 bt 196 T5 := k5.row.other g6 (fun e => by injection e with e; omega)
  have l6 : Hold w6 bl cl qs' := a5.grown g6 (fun e => by injection e with e; omega)
  have g8 : w6.grownBy w8 (some bt) := by rw [h8, h7]; exact grown_trans (grownBy_set _ _ _ _) (grownBy_set _ _ _ _)
  have t8 : Arr w8 bt 196 ((T5.set (ii * 3) (.slice (some ⟨b, 0, none⟩) (nw ii) c)).set (ii * 3 + 2) (.int .i64 ((D + 1 : Nat) : Int))) := by rw [h8, h7]; exact (t6.set _ _).set _ _
  have s8 := s6.only (P := fun k => k = bt) ((Only.refl _ _).of_grown g8 rfl) (fun k hk => .inl (.inl (.inr (.inl hk))))
  have hl := h.len
  have hd1 := h.dlo
  refine ⟨⟨t8, by rw [List.length_set, List.length_set]; exact hl, ?_, ?_, ?_, ?_, a6.grown g8 (fun e => by injection e with e; omega), q1, q2, q3, by omega, hD, hfr, o6.of_grown g8 hRt, s8.mono fun k _ hk => .inl hk, fun e he => ?_⟩, l6.grown g8 (fun e => by injection e with e; omega), s8⟩
  · rw [List.getElem?_set_ne (by omega), List.getElem?_set_self (by omega)]
  · rw [List.getElem?_set_ne (by omega), List.getElem?_set_ne (by omega)]; exact h.c1
  · rw [List.getElem?_set_self (by rw [List.length_set]; omega)]
  · intro j a1 a2 a3
    rw [List.getElem?_set_ne (by omega), List.getElem?_set_ne (by omega)]
    exact h.oth j a1 a2 a3
  · obtain ⟨vs, v1, v2⟩ := k5.old e he
    have hb := hfr.2 e he
    have hnt : be e ≠ bt := fun h0 => by
      have r1 := k5.row
      obtain ⟨cc, v1a, _⟩ := v1
      rw [h0] at v1a
      unfold Arr at r1 v1a
      rw [r1] at v1a
      injection v1a with v1a
      injection v1a with _ v1a
      exact absurd v1a (by decide)
    exact ⟨vs, (v1.grown g6 (fun e => by injection e with e; omega)).grown g8 (fun e => by injection e with e; exact hnt e.symm), v2⟩
/-- The entry is done. -/
theorem Half.done {R : Nat → Prop} {w w5 w9 : World} {st bt k ii : Nat} {T T5 : List Value} {be ce : Nat → Nat} {b c : Nat} {qs : List Nat} {wr : World} (hE : Ents wr T k ii be ce) (h : Half R w w5 st bt k ii T T5 be ce b c (nd ii) qs) (hii : ii < k) (hk : k ≤ 3) (hRt : ¬ R bt)
    (h9 : w9 = w5.setCell ⟨bt, ii * 3 + 1, none⟩ (.int .i64 ((nb ii : Nat) : Int))) :
    Arr w9 bt 196 (T5.set (ii * 3 + 1) (.int .i64 ((nb ii : Nat) : Int))) ∧ Ents w9 (T5.set (ii * 3 + 1) (.int .i64 ((nb ii : Nat) : Int))) k (ii + 1) (fun e => if e = ii then b else be e) (fun e => if e = ii then c else ce e) ∧
      Only (fun k => ¬ R k) w w9 ∧ Stk0 w9 st (RR R bt (ii + 1) (fun e => if e = ii then b else be e)) := by
  have g9 : w5.grownBy w9 (some bt) := by rw [h9]; exact grownBy_set _ _ _ _
  have t9 : Arr w9 bt 196 (T5.set (ii * 3 + 1) (.int .i64 ((nb ii : Nat) : Int))) := by rw [h9]; exact h.row.set _ _
  have hl := h.len
  have hle := hE.len
  have hfr := h.fresh
  refine ⟨t9, ⟨by rw [List.length_set]; exact hl, fun e he => ?_, fun e he1 he2 => ?_, fun e he => ?_⟩, h.only.of_grown g9 hRt, ?_⟩
  · by_cases e1 : e = ii
    · subst e1
      rw [if_pos rfl, if_pos rfl]
      exact ⟨by rw [List.getElem?_set_ne (by omega)]; exact h.c0, by rw [List.getElem?_set_self (by omega)], by rw [List.getElem?_set_ne (by omega)]; exact h.c2⟩
    · rw [if_neg e1, if_neg e1]
      obtain ⟨n1, n2, n3⟩ := hE.num e (by omega)
      exact ⟨by rw [List.getElem?_set_ne (by omega), h.oth _ (by omega) (by omega) (by omega)]; exact n1, by rw [List.getElem?_set_ne (by omega), h.oth _ (by omega) (by omega) (by omega)]; exact n2, by rw [List.getElem?_set_ne (by omega), h.oth _ (by omega) (by omega) (by omega)]; exact n3⟩
  · obtain ⟨n1, n2, n3⟩ := hE.rest e (by omega) he2
    exact ⟨by rw [List.getElem?_set_ne (by omega), h.oth _ (by omega) (by omega) (by omega)]; exact n1, by rw [List.getElem?_set_ne (by omega), h.oth _ (by omega) (by omega) (by omega)]; exact n2, by rw [List.getElem?_set_ne (by omega), h.oth _ (by omega) (by omega) (by omega)]; exact n3⟩
  · by_cases e1 : e = ii
    · subst e1
      rw [if_pos rfl, if_pos rfl]
      obtain ⟨f1, _, _, f4, _⟩ := nd0_facts e (by omega)
      have hp := nw_pos e (by omega)
      have hpl := h.plen
      refine ⟨qs, h.hold.grown g9 (fun e => by injection e with e; omega), h.ws, nrm_of_val (n := nw e - 1) h.ws (by omega) ?_, h.pv⟩
      rw [h.pv]
      exact Nat.le_trans f1 (Nat.pow_le_pow_right (by omega) f4)
    · rw [if_neg e1, if_neg e1]
      obtain ⟨vs, v1, v2⟩ := h.old e (by omega)
      have hnt : be e ≠ bt := fun h0 => by
        have r1 := h.row
        obtain ⟨cc, v1a, _⟩ := v1
        rw [h0] at v1a
        unfold Arr at r1 v1a
        rw [r1] at v1a
        injection v1a with v1a
        injection v1a with _ v1a
        exact absurd v1a (by decide)
      exact ⟨vs, v1.grown g9 (fun e => by injection e with e; exact hnt e.symm), v2⟩
  · have s9 := h.stk.only (P := fun k => k = bt) ((Only.refl _ _).of_grown g9 rfl) (fun k hk => .inl (.inr (.inl hk)))
    refine s9.mono fun j _ hj => ?_
    rcases hj with hj | hj | ⟨e, he, hj⟩
    · exact .inl (.inl hj)
    · exact .inl (.inr (.inl hj))
    · by_cases e1 : e = ii
      · dsimp only at hj; rw [if_pos e1] at hj; exact .inr hj
      · dsimp only at hj; rw [if_neg e1] at hj; exact .inl (.inr (.inr ⟨e, by omega, hj⟩))
end Go.Proofs.Tz

/- Contract of nat.div by a divisor of the table. -/
namespace Go.Proofs.Tz
open Go.RowKit Mv

theorem Hold.nat {w : World} {b c : Nat} {ws : List Nat} (h : Hold w b c ws) : NatAt w 0 (.slice (some ⟨b, 0, none⟩) ws.length c) ws := by
  obtain ⟨cs, h1, h2, h3, h4, _⟩ := h
  exact .inr ⟨b, c, cs, rfl, Nat.zero_le _, h1, h2, h3, h4⟩
theorem nlz_one {d : Nat} (h1 : HB ≤ 2 * d) (h2 : d < HB) (w : World) : Calls Tryz.prog 187 #[.int .u64 (d : Int)] w fun e w' => e = .returned (.int .u64 1) ∧ w = w' := by
  have hb : Lib.bitLen d = 63 := blen_eq (by unfold HB at h1; omega) (by unfold HB at h2; unfold WB; omega) (by unfold HB at h1; omega) (by unfold HB at h2; omega)
  exact nlz_any d (by unfold HB at h2; unfold WB; omega) w 1 (by rw [hb]; rfl)

/-- divLarge by a divisor of the table. -/
theorem divLarge_tab (R : Nat → Prop) (st bq cq bv cv e : Nat) (z2 : Value) (us vs : List Nat) (w : World) (h15 : ∀ w', Only (fun k => ¬ R k ∨ k = bq ∨ z2.ownBlock = some k) w w' → w'.cell? ⟨15, 0, none⟩ = some (.int .i64 40))
    (hS : Stk0 w st R) (hR : ∀ k, R k → k < w.heap.size) (hbq : R bq) (hbv : R bv) (hz2 : ZOk w z2) (hz2R : ∀ b, z2.ownBlock = some b → R b) (hz2q : z2.ownBlock ≠ some bq) (hz2v : z2.ownBlock ≠ some bv) (hqv : bq ≠ bv)
    (hU : Hold w bq cq us) (hV : Hold w bv cv vs) (he : e < 3) (hul : nw e ≤ us.length) (hul2 : us.length ≤ 90) (hu : Ws us) (hv : Ws vs) (hvn : Nrm vs) (hvv : val vs = 10 ^ nd e) :
    Calls Tryz.prog 173 #[.slice (some ⟨bq, 0, none⟩) us.length cq, .pointer (some ⟨st, 0, none⟩), z2, .slice (some ⟨bq, 0, none⟩) us.length cq, .slice (some ⟨bv, 0, none⟩) (nw e) cv] w (Divided R w st bq cq z2 us vs) := by
  have hvl := nw_len he hv hvn hvv
  rcases (by omega : e = 0 ∨ e = 1 ∨ e = 2) with rfl | rfl | rfl
  · have hvl8 : vs.length = 6 + 2 := hvl
    have ht := top_word hv (n := 7) (by rw [hvl8])
    rw [hvv, show 10 ^ nd 0 / WB ^ 7 = 13758210268297397763 by decide +kernel] at ht
    obtain ⟨mm, hmm⟩ : ∃ mm, us.length = mm + (6 + 2) := ⟨us.length - 8, by have : nw 0 = 8 := rfl; omega⟩
    have := divLarge_0 R st bq cq bv cv 6 mm 12 13758210268297397763 13758210268297397763 z2 us vs w h15 hS hR hbq hbv hz2 hz2R hz2q hz2v hqv hU hV hmm hvl8 (by omega) (by omega) hu hv (by decide) (by decide) (by omega) (by omega) (by omega) ht rfl (fun w => nlz_zero (by unfold WB; omega) (by unfold WB; omega) w) (by unfold WB; omega) rec_1
    rw [hmm]; exact this
  · have hvl8 : vs.length = 14 + 2 := hvl
    have ht := top_word hv (n := 15) (by rw [hvl8])
    rw [hvv, show 10 ^ nd 1 / WB ^ 15 = 10261342003245940623 by decide +kernel] at ht
    obtain ⟨mm, hmm⟩ : ∃ mm, us.length = mm + (14 + 2) := ⟨us.length - 16, by have : nw 1 = 16 := rfl; omega⟩
    have := divLarge_0 R st bq cq bv cv 14 mm 20 10261342003245940623 10261342003245940623 z2 us vs w h15 hS hR hbq hbv hz2 hz2R hz2q hz2v hqv hU hV hmm hvl8 (by omega) (by omega) hu hv (by decide) (by decide) (by omega) (by omega) (by omega) ht rfl (fun w => nlz_zero (by unfold WB; omega) (by unfold WB; omega) w) (by unfold WB; omega) rec_2
    rw [hmm]; exact this
  · have hvl8 : vs.length = 30 + 2 := hvl
    have ht := top_word hv (n := 31) (by rw [hvl8])
    obtain ⟨vt, hvt⟩ : ∃ vt, vt = val vs / WB ^ 31 := ⟨_, rfl⟩
    rw [← hvt] at ht
    rw [hvv] at hvt
    have b1 : vt < HB := by rw [hvt]; decide +kernel
    have b2 : HB ≤ 2 * vt := by rw [hvt]; decide +kernel
    have h1 := shlL_val 0 vs
    have h2 : (shlL 0 vs).2 = 0 := by rw [shl_out hv (n := 31) (by omega) ht]; exact Nat.div_eq_of_lt b1
    rw [h2, Nat.mul_zero, Nat.add_zero, Nat.add_zero, hvv] at h1
    have ht2 := top_word (shlL_ws 0 vs) (n := 31) (by rw [shlL_len, hvl8])
    rw [h1, show 2 * 10 ^ nd 2 / WB ^ 31 = 11416121922312230241 by decide +kernel] at ht2
    obtain ⟨mm, hmm⟩ : ∃ mm, us.length = mm + (30 + 2) := ⟨us.length - 32, by have : nw 2 = 32 := rfl; omega⟩
    have := divLarge_1 R st bq cq bv cv 30 mm 36 11416121922312230241 vt z2 us vs w h15 hS hR hbq hbv hz2 hz2R hz2q hz2v hqv hU hV hmm hvl8 (by omega) (by omega) hu hv (by decide) (by decide) (by omega) (by omega) (by omega) ht b1 ht2 (fun w => nlz_one b2 b1 w) (by unfold WB; omega) rec_3
    rw [hmm]; exact this

set_option maxHeartbeats 4000000 in
set_option maxRecDepth 100000 in
theorem div_tab (R : Nat → Prop) (st bq cq bv cv e : Nat) (z2 : Value) (us vs : List Nat) (w : World) (h15 : ∀ w', Only (fun k => ¬ R k ∨ k = bq ∨ z2.ownBlock = some k) w w' → w'.cell? ⟨15, 0, none⟩ = some (.int .i64 40))
    (hS : Stk0 w st R) (hR : ∀ k, R k → k < w.heap.size) (hbq : R bq) (hbv : R bv) (hz2 : ZOk w z2) (hz2R : ∀ b, z2.ownBlock = some b → R b) (hz2q : z2.ownBlock ≠ some bq) (hz2v : z2.ownBlock ≠ some bv) (hqv : bq ≠ bv)
    (hU : Hold w bq cq us) (hV : Hold w bv cv vs) (he : e < 3) (hul2 : us.length ≤ 90) (hu : Ws us) (hun : Nrm us) (hv : Ws vs) (hvn : Nrm vs) (hvv : val vs = 10 ^ nd e) (hle : val vs ≤ val us) :
    Calls Tryz.prog 150 #[.slice (some ⟨bq, 0, none⟩) us.length cq, .pointer (some ⟨st, 0, none⟩), z2, .slice (some ⟨bq, 0, none⟩) us.length cq, .slice (some ⟨bv, 0, none⟩) (nw e) cv] w (Divided R w st bq cq z2 us vs) := by
  have hvl := nw_len he hv hvn hvv
  have hp := nw_pos e he
  have hul : nw e ≤ us.length := by
    have h1 := (nw_bounds e he).1
    have h2 := val_lt hu
    have h3 : nw e - 1 < us.length := (Nat.pow_lt_pow_iff_right (show 1 < WB by unfold WB; omega)).1 (Nat.lt_of_le_of_lt (Nat.le_trans h1 (by rw [← hvv]; exact hle)) h2)
    clear h1 h2
    omega
  have hcm := natCmp_any _ _ us vs 0 0 w hU.nat hV.nat hu hv hun hvn (by omega) (by omega)
  rw [hvl] at hcm
  have hdl := fun k => divLarge_tab R st bq cq bv cv e z2 us vs (w.drewN k) (fun w' ho => h15 w' (((Only.refl _ w).drewN k).trans ho)) ⟨hS.1, hS.2.elim (fun h => .inl (h.drewN k)) (fun ⟨si, bw, c, cs, g1, g2, g3⟩ => .inr ⟨si, bw, c, cs, g1, g2, g3.ptr.drewN k, g3.inner.hdr.drewN k, g3.inner.row.drewN k, g3.inner.len, g3.inner.fit, g3.inner.cap⟩)⟩
    hR hbq hbv (hz2.drewN k) hz2R hz2q hz2v hqv (hU.drewN k) (hV.drewN k) he hul hul2 hu hv hvn hvv
  obtain ⟨cc, hcc⟩ : ∃ cc, cc = cmpN (val us) (val vs) := ⟨_, rfl⟩
  have hcn : ¬ cc < 0 := by rw [hcc]; unfold cmpN; split <;> (try split) <;> omega
  rw [← hcc] at hcm
  have HCM := Lib.hid hcm
  have HDL := Lib.hid hdl
  have z1 : ((us.length : Int) == 0) = false := by simp only [beq_eq_false_iff_ne, ne_eq]; omega
  have n0 : ((nw e : Int) == 0) = false := by simp only [beq_eq_false_iff_ne, ne_eq]; omega
  have n1 : ((nw e : Int) == 1) = false := by simp only [beq_eq_false_iff_ne, ne_eq]; omega
  clear hcm hdl hvl hul h15 hS hR hbq hbv hz2 hz2R hz2q hz2v hqv hU hV hu hun hv hvn hvv hle hcc
  go_enter_defers Tryz.func150, Tryz.ntmps150
  go_wp2_with fail
  (with_reducible refine HCM.out.mono ?_)
  rintro r w1 ⟨rfl, k1, rfl⟩
  go_wp2_with fail
  (with_reducible refine (HDL.out _).mono ?_)
  rintro r w2 ⟨br, cr, qs, rs, rfl, f1, f2, f3, f4, f5, f6, f7, f8, f9, f10, f11, f12⟩
  have F := Lib.hid (And.intro f1 (And.intro f2 (And.intro f3 (And.intro f4 (And.intro f5 (And.intro f6 (And.intro f7 (And.intro f8 (And.intro f9 (And.intro f10 (And.intro (((Only.refl _ w).drewN k1).trans f11) f12)))))))))))
  clear f1 f2 f3 f4 f5 f6 f7 f8 f9 f10 f11 f12
  go_wp2_with fail
  exact ⟨_, results_tmp2 rfl _ _ _, br, cr, qs, rs, rfl, F.out⟩
end Go.Proofs.Tz
