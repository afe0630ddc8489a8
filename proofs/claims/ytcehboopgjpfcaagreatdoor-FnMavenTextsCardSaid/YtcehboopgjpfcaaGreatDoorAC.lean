/- A11 A12 A13 in one text. -/
import Derived.Test.YtcehboopgjpfcaaGreatDoorA10
import Derived.Test.YtcehboopgjpfcaaGreatDoorPA
/- Contracts of Int.scan, setFromScanner, SetString and convertToBigInt. -/
namespace Go.Proofs.Tz
open Go.RowKit Mv

/-- A number in memory: its sign is none. -/
def IntAt (w : World) (base b : Nat) (ws : List Nat) : Prop := ∃ v, Arr w b 120 [.bool false, v] ∧ NatAt w base v ws ∧ b < base

theorem NatAt.own_ge {w : World} {base : Nat} {v : Value} {ws : List Nat} (h : NatAt w base v ws) {k : Nat} (hk : k < base) : v.ownBlock = none ∨ v.ownBlock ≠ some k := by
  rcases h with ⟨rfl, _⟩ | ⟨b, cap, cs, rfl, hb, _⟩
  · exact .inl rfl
  · exact .inr (by simp only [Value.ownBlock]; intro e; injection e with e; omega)
theorem NatAt.setLow {w : World} {base : Nat} {v : Value} {ws : List Nat} (h : NatAt w base v ws) {k j : Nat} (hk : k < base) (u : Value) : NatAt (w.setCell ⟨k, j, none⟩ u) base v ws :=
  h.other (grownBy_set w k j u) (h.own_ge hk)

def ScanPost (base b p : Nat) (s : ByteArray) (w : World) (e : Ending) (w' : World) : Prop :=
  ∃ ws, e = .returned (.tuple #[.pointer (some ⟨b, 0, none⟩), .int .i64 10, .nilIface]) ∧ IntAt w' w.heap.size b ws ∧ Ws ws ∧ Nrm ws ∧ val ws = dval s.data.toList ∧ Rdr w' p s s.size ∧ Below base w w'

theorem below_of_grown {base : Nat} {a w w' : World} (h : Below base a w) {k : Nat} (hg : w.grownBy w' (some k)) (hk : base ≤ k) (hb : base ≤ w.heap.size) : Below base a w' :=
  h.grown hg hb (fun j hj => by injection hj with hj; omega)

set_option maxHeartbeats 2000000 in
theorem intScan_digits (base b p : Nat) (s : ByteArray) (ae : Addr) (w : World) (hb : base ≤ b) (hbp : b ≠ p) (hpb : base ≤ p) (hI : Arr w b 120 [.bool false, .slice none 0 0]) (hR : Rdr w p s 0) (h0 : 0 < s.size) (hs : s.size ≤ 1000000)
    (hd : ∀ c ∈ s.data.toList, isDig c = true) (hE : w.cell? ⟨3, 0, none⟩ = some (ifp ae)) (hp : 16 < base) :
    Calls Tryz.prog 113 #[.pointer (some ⟨b, 0, none⟩), .iface 136 (.pointer (some ⟨p, 0, none⟩)), .int .i64 10] w (ScanPost base b p s w) := by
  have hd0 := hd s[0] (show s.data.toList[0]'(by simpa using h0) ∈ s.data.toList from List.getElem_mem _)
  have hdb := (isDig_iff _).1 hd0
  have hm : s[0] ≠ 45 := fun e => by rw [e] at hdb; exact absurd hdb (by decide)
  have hpl : s[0] ≠ 43 := fun e => by rw [e] at hdb; exact absurd hdb (by decide)
  have hss := scanSign_other p s w hR h0 (by omega) hm hpl
  have HSS := Lib.hid hss
  have HI := Lib.hid hI
  have HD := Lib.hid hd
  have HE := Lib.hid hE
  have hbl := hI.lt
  clear hd0 hdb hm hpl hss hI hd hE hR
  go_enter Tryz.func113, Tryz.ntmps113
  go_wp2_with fail
  (with_reducible refine HSS.out.mono ?_)
  rintro e w1 ⟨rfl, h1, h2, h3⟩
  have hI1 : Arr w1 b 120 [.bool false, .slice none 0 0] := HI.out.other h2 (by simp; exact hbp)
  have hE1 : w1.cell? ⟨3, 0, none⟩ = some (ifp ae) := (World.cell?_of_block (a := ⟨3, 0, none⟩) (h2.block 3 (World.block_lt_of_cell? w _ HE.out) (by simp; omega))).trans HE.out
  have c1 : w1.cell? ⟨b, 1, none⟩ = some (.slice none 0 0) := hI1.cell rfl
  have HI1 := Lib.hid hI1
  have HE1 := Lib.hid hE1
  have H1 := Lib.hid h1
  have H2 := Lib.hid h2
  have H3 := Lib.hid h3
  clear h1 h2 h3 hI1 hE1
  go_wp2_with fail
  (with_reducible refine (scan_digits p s ae w1 H1.out h0 hs HD.out HE1.out (by omega)).mono ?_)
  rintro e w2 ⟨v, ws, rfl, g1, g2, g3, g4, g5, g6⟩
  have hI2 : Arr w2 b 120 [.bool false, .slice none 0 0] := HI1.out.other g6 (by simp; exact hbp)
  have f1 := hI2.free 1
  have f0 := hI2.free 0
  have c1' : w2.cell? ⟨b, 1, none⟩ = some (.slice none 0 0) := hI2.cell rfl
  have c0 : w2.cell? ⟨b, 0, none⟩ = some (.bool false) := hI2.cell rfl
  have HI2 := Lib.hid hI2
  have G1 := Lib.hid g1
  have G2 := Lib.hid g2
  have G3 := Lib.hid g3
  have G4 := Lib.hid g4
  have G5 := Lib.hid g5
  have G6 := Lib.hid g6
  clear g1 g2 g3 g4 g5 g6 hI2 c1
  obtain ⟨a, c, hv⟩ := G1.out.form
  subst hv
  go_wp2_with fail
  all_goals
    go_ret3
    have hb2 : b < w2.heap.size := HI2.out.lt
    have hbelow : Below base w w2 := below_of_grown (below_of_grown (Below.refl _ _) H2.out hpb (by omega)) G6.out hpb (by rw [H3.out]; omega)
    refine ⟨ws, rfl, ⟨_, (HI2.out.set 1 (.slice a ws.length c)).set 0 (.bool false), ?_, by omega⟩, G2.out, G3.out, G4.out, ?_, (hbelow.setCell (by exact hb) _).setCell (by exact hb) _⟩
    · exact ((G1.out.mono (by rw [H3.out]; exact Nat.le_refl _)).setLow (by omega) _).setLow (by omega) _
    · exact (G5.out.setOther (Ne.symm hbp) _).setOther (Ne.symm hbp) _

def BadPost (base : Nat) (an : Addr) (w : World) (e : Ending) (w' : World) : Prop :=
  e = .returned (.tuple #[.pointer none, .int .i64 10, ifp an]) ∧ Below base w w'

set_option maxHeartbeats 2000000 in
/-- Behind the sign there is no digit. -/
theorem intScan_bad (base b p : Nat) (s : ByteArray) (i : Nat) (ae an : Addr) (w : World) (hb : base ≤ b) (hbp : b ≠ p) (hpb : base ≤ p) (hI : Arr w b 120 [.bool false, .slice none 0 0])
    (hss : Calls Tryz.prog 139 #[.iface 136 (.pointer (some ⟨p, 0, none⟩))] w fun e w' => e = .returned (.tuple #[.bool false, .nilIface]) ∧ Rdr w' p s i ∧ w.grownBy w' (some p) ∧ w'.heap.size = w.heap.size)
    (hs : s.size ≤ 1000000) (hi : i = s.size ∨ ∃ h : i < s.size, isDig s[i] = false) (hE : w.cell? ⟨3, 0, none⟩ = some (ifp ae)) (hN : w.cell? ⟨10, 0, none⟩ = some (ifp an)) (hp : 16 < base) :
    Calls Tryz.prog 113 #[.pointer (some ⟨b, 0, none⟩), .iface 136 (.pointer (some ⟨p, 0, none⟩)), .int .i64 10] w (BadPost base an w) := by
  have HSS := Lib.hid hss
  have HI := Lib.hid hI
  have HIS := Lib.hid hi
  have HE := Lib.hid hE
  have HN := Lib.hid hN
  have hbl := hI.lt
  clear hss hI hi hE hN
  go_enter Tryz.func113, Tryz.ntmps113
  go_wp2_with fail
  (with_reducible refine HSS.out.mono ?_)
  rintro e w1 ⟨rfl, h1, h2, h3⟩
  have hI1 : Arr w1 b 120 [.bool false, .slice none 0 0] := HI.out.other h2 (by simp; exact hbp)
  have hE1 : w1.cell? ⟨3, 0, none⟩ = some (ifp ae) := (World.cell?_of_block (a := ⟨3, 0, none⟩) (h2.block 3 (World.block_lt_of_cell? w _ HE.out) (by simp; omega))).trans HE.out
  have hN1 : w1.cell? ⟨10, 0, none⟩ = some (ifp an) := (World.cell?_of_block (a := ⟨10, 0, none⟩) (h2.block 10 (World.block_lt_of_cell? w _ HN.out) (by simp; omega))).trans HN.out
  have c1 : w1.cell? ⟨b, 1, none⟩ = some (.slice none 0 0) := hI1.cell rfl
  have hsc : Calls Tryz.prog 140 #[.slice none 0 0, .iface 136 (.pointer (some ⟨p, 0, none⟩)), .int .i64 10, .bool false] w1 fun e w' => e = .returned (.tuple #[.slice none 0 0, .int .i64 10, .int .i64 0, ifp an]) ∧ w1.grownBy w' (some p) := by
    rcases HIS.out with e | ⟨h, hd⟩
    · rw [e] at h1; exact scan_end p s ae an w1 h1 hs hE1 hN1 (by omega)
    · exact scan_bad p s i h ae an w1 h1 hs hd hE1 hN1 (by omega)
  have HSC := Lib.hid hsc
  have HI1 := Lib.hid hI1
  have H2 := Lib.hid h2
  have H3 := Lib.hid h3
  clear h1 h2 h3 hI1 hE1 hN1 hsc
  go_wp2_with fail
  (with_reducible refine HSC.out.mono ?_)
  rintro e w2 ⟨rfl, g6⟩
  have hI2 : Arr w2 b 120 [.bool false, .slice none 0 0] := HI1.out.other g6 (by simp; exact hbp)
  have f1 := hI2.free 1
  have c1' : w2.cell? ⟨b, 1, none⟩ = some (.slice none 0 0) := hI2.cell rfl
  have G6 := Lib.hid g6
  clear g6 hI2 c1
  unfold ifp
  go_wp2_with fail
  go_ret3
  have hbelow : Below base w w2 := below_of_grown (below_of_grown (Below.refl _ _) H2.out hpb (by omega)) G6.out hpb (by rw [H3.out]; omega)
  exact ⟨rfl, hbelow.setCell (by exact hb) _⟩
end Go.Proofs.Tz

/- Contracts of setFromScanner, SetString and convertToBigInt. -/
namespace Go.Proofs.Tz
open Go.RowKit Mv

/-- What is taken of the package-level variables of the errors: each holds an error. -/
structure Env (w : World) : Prop where
  eof : ∃ a, w.cell? ⟨3, 0, none⟩ = some (ifp a)
  none_ : ∃ a, w.cell? ⟨10, 0, none⟩ = some (ifp a)
  inv : ∃ a, w.cell? ⟨0, 0, none⟩ = some (ifp a)
  size : 16 < w.heap.size

theorem cell_keep {w w' : World} (hb : Below w.heap.size w w') {g j : Nat} {v : Value} (h : w.cell? ⟨g, j, none⟩ = some v) : w'.cell? ⟨g, j, none⟩ = some v :=
  (hb.cell (World.block_lt_of_cell? w _ h)).trans h
theorem Env.below {w w' : World} (h : Env w) (hb : Below w.heap.size w w') : Env w' := by
  obtain ⟨a, ha⟩ := h.eof
  obtain ⟨b, hb'⟩ := h.none_
  obtain ⟨c, hc⟩ := h.inv
  exact ⟨⟨a, cell_keep hb ha⟩, ⟨b, cell_keep hb hb'⟩, ⟨c, cell_keep hb hc⟩, Nat.lt_of_lt_of_le h.size hb.size⟩

theorem neq_ifp (a : Addr) (w : World) : (binOp .neq 71 (ifp a) (ifp a)).run Tryz.prog w = .ok (.bool false) w := by
  have h1 : (Tryz.prog.info? 296).map (·.comparable) = some true := by kernel_rfl
  have h2 : (Tryz.prog.info? 311).map (·.size) = some 1 := by kernel_rfl
  obtain ⟨i, hi, hc⟩ := Option.map_eq_some_iff.1 h1
  obtain ⟨j, hj, _⟩ := Option.map_eq_some_iff.1 h2
  simp only [binOp]
  unfold ifp
  simp [Op.equal, Op.maxDepth, run_equalIn_iface_ptr_same w 9998 a Tryz.underlying71 Tryz.underlying296 hi hc hj]

/-- No number: no digit, and no hyphen. -/
def NoNum (l : Bs) : Prop := ∀ c ∈ l, isDig c = false ∧ c ≠ 45

set_option maxHeartbeats 2000000 in
theorem setScan_digits (b p : Nat) (s : ByteArray) (base : Nat) (w : World) (hEnv : Env w) (hb : base ≤ b) (hbp : b ≠ p) (hpb : base ≤ p) (hbs : 16 < base) (hI : Arr w b 120 [.bool false, .slice none 0 0]) (hR : Rdr w p s 0) (h0 : 0 < s.size) (hs : s.size ≤ 1000000)
    (hd : ∀ c ∈ s.data.toList, isDig c = true) :
    Calls Tryz.prog 100 #[.pointer (some ⟨b, 0, none⟩), .iface 136 (.pointer (some ⟨p, 0, none⟩)), .int .i64 10] w fun e w' =>
      e = .returned (.tuple #[.pointer (some ⟨b, 0, none⟩), .bool true]) ∧ (∃ ws, IntAt w' w.heap.size b ws ∧ Ws ws ∧ Nrm ws ∧ val ws = dval s.data.toList) ∧ Below base w w' := by
  obtain ⟨ae, hE⟩ := hEnv.eof
  have m1 := ahead_read ⟨p, 0, none⟩
  have m2 := method_read ⟨p, 0, none⟩
  have hsc := intScan_digits base b p s ae w hb hbp hpb hI hR h0 hs hd hE hbs
  have hpl := hR.lt
  have HSC := Lib.hid hsc
  have HE := Lib.hid hE
  have hne := neq_ifp ae
  clear hsc hI hR hd hE hEnv
  go_enter Tryz.func100, Tryz.ntmps100
  go_wp2_with fail
  (with_reducible refine HSC.out.mono ?_)
  rintro e w1 ⟨ws, rfl, g1, g2, g3, g4, g5, g6⟩
  have hE1 : w1.cell? ⟨3, 0, none⟩ = some (ifp ae) := (World.cell?_of_block (a := ⟨3, 0, none⟩) (g6.block 3 (by omega))).trans HE.out
  have G1 := Lib.hid g1
  have G5 := Lib.hid g5
  have G6 := Lib.hid g6
  have HE1 := Lib.hid hE1
  clear g1 g5 g6 hE1
  go_wp2_with fail
  (with_reducible refine (readByte_none p s (ifp ae) w1 G5.out (by omega) HE1.out (by omega)).mono ?_)
  rintro e w2 ⟨rfl, h1, h2, h3⟩
  have hE2 : w2.cell? ⟨3, 0, none⟩ = some (ifp ae) := (World.cell?_of_block (a := ⟨3, 0, none⟩) (h2.block 3 (World.block_lt_of_cell? _ _ HE1.out) (by simp; omega))).trans HE1.out
  have H2 := Lib.hid h2
  have H3 := Lib.hid h3
  unfold ifp at hE2 hne ⊢
  clear h1 h2 h3
  go_wp2_with fail
  go_ret2
  refine ⟨rfl, ⟨ws, ?_, g2, g3, g4⟩, below_of_grown G6.out H2.out hpb ?_⟩
  · obtain ⟨v, k1, k2, k3⟩ := G1.out
    exact ⟨v, k1.other H2.out (by simp; exact hbp), k2.other H2.out (k2.own_ge hpl), k3⟩
  · have := G6.out.size; omega

theorem scan_sign_any (p : Nat) (s : ByteArray) (w : World) (hR : Rdr w p s 0) (h0 : 0 < s.size) (hs : s.size ≤ 1000000) (hn : NoNum s.data.toList) :
    ∃ i, (i = s.size ∨ ∃ h : i < s.size, isDig s[i] = false) ∧ Calls Tryz.prog 139 #[.iface 136 (.pointer (some ⟨p, 0, none⟩))] w fun e w' => e = .returned (.tuple #[.bool false, .nilIface]) ∧ Rdr w' p s i ∧ w.grownBy w' (some p) ∧ w'.heap.size = w.heap.size := by
  have hmem : ∀ (i : Nat) (h : i < s.size), s[i] ∈ s.data.toList := fun i h => show s.data.toList[i]'(by simpa using h) ∈ s.data.toList from List.getElem_mem _
  by_cases hp : s[0] = 43
  · refine ⟨1, ?_, scanSign_plus p s w hR h0 (by omega) hp⟩
    by_cases h1 : 1 < s.size
    · exact .inr ⟨h1, (hn _ (hmem 1 h1)).1⟩
    · exact .inl (by omega)
  · exact ⟨0, .inr ⟨h0, (hn _ (hmem 0 h0)).1⟩, scanSign_other p s w hR h0 (by omega) (hn _ (hmem 0 h0)).2 hp⟩

set_option maxHeartbeats 2000000 in
theorem setScan_bad (b p : Nat) (s : ByteArray) (base : Nat) (w : World) (hEnv : Env w) (hb : base ≤ b) (hbp : b ≠ p) (hpb : base ≤ p) (hbs : 16 < base) (hI : Arr w b 120 [.bool false, .slice none 0 0]) (hR : Rdr w p s 0) (h0 : 0 < s.size) (hs : s.size ≤ 1000000)
    (hn : NoNum s.data.toList) :
    Calls Tryz.prog 100 #[.pointer (some ⟨b, 0, none⟩), .iface 136 (.pointer (some ⟨p, 0, none⟩)), .int .i64 10] w fun e w' => e = .returned (.tuple #[.pointer none, .bool false]) ∧ Below base w w' := by
  obtain ⟨ae, hE⟩ := hEnv.eof
  obtain ⟨an, hN⟩ := hEnv.none_
  obtain ⟨i, hi, hss⟩ := scan_sign_any p s w hR h0 hs hn
  have hsc := intScan_bad base b p s i ae an w hb hbp hpb hI hss hs hi hE hN hbs
  have HSC := Lib.hid hsc
  clear hsc hI hR hn hE hEnv hN hss hi
  go_enter Tryz.func100, Tryz.ntmps100
  go_wp2_with fail
  (with_reducible refine HSC.out.mono ?_)
  rintro e w1 ⟨rfl, g6⟩
  unfold ifp
  go_wp2_with fail
  go_ret2
  exact ⟨rfl, g6⟩

set_option maxHeartbeats 2000000 in
theorem setScan_empty (b p : Nat) (s : ByteArray) (base : Nat) (w : World) (hEnv : Env w) (hpb : base ≤ p) (hbs : 16 < base) (hbw : base ≤ w.heap.size) (hR : Rdr w p s 0) (h0 : s.size = 0) :
    Calls Tryz.prog 100 #[.pointer (some ⟨b, 0, none⟩), .iface 136 (.pointer (some ⟨p, 0, none⟩)), .int .i64 10] w fun e w' => e = .returned (.tuple #[.pointer none, .bool false]) ∧ Below base w w' := by
  obtain ⟨ae, hE⟩ := hEnv.eof
  have hss := scanSign_none p s ae w (by rw [h0]; exact hR) (by omega) hE (by omega)
  have HSS := Lib.hid hss
  clear hss hR hE hEnv
  have hsc : Calls Tryz.prog 113 #[.pointer (some ⟨b, 0, none⟩), .iface 136 (.pointer (some ⟨p, 0, none⟩)), .int .i64 10] w fun e w' => e = .returned (.tuple #[.pointer none, .int .i64 0, ifp ae]) ∧ Below base w w' := by
    go_enter Tryz.func113, Tryz.ntmps113
    go_wp2_with fail
    (with_reducible refine HSS.out.mono ?_)
    rintro e w1 ⟨rfl, h1, h2, h3⟩
    have H2 := Lib.hid h2
    clear h1 h2 h3
    unfold ifp
    go_wp2_with fail
    go_ret3
    exact ⟨rfl, below_of_grown (Below.refl _ _) H2.out hpb hbw⟩
  have HSC := Lib.hid hsc
  clear hsc
  go_enter Tryz.func100, Tryz.ntmps100
  go_wp2_with fail
  (with_reducible refine HSC.out.mono ?_)
  rintro e w1 ⟨rfl, g6⟩
  unfold ifp
  go_wp2_with fail
  go_ret2
  exact ⟨rfl, g6⟩
end Go.Proofs.Tz

/- Contracts of SetString and convertToBigInt. -/
namespace Go.Proofs.Tz
open Go.RowKit Mv

theorem below_drewN' {B : Nat} {w W : World} (h : Below B w W) (n : Nat) : Below B w (W.drewN n) := ⟨h.os, h.tape, h.output, h.size, h.block⟩
theorem list_size (s : ByteArray) : s.data.toList.length = s.size := by simp

set_option maxHeartbeats 2000000 in
theorem setString_digits (b : Nat) (s : ByteArray) (base : Nat) (w : World) (hEnv : Env w) (hb : base ≤ b) (hbs : 16 < base) (hI : Arr w b 120 [.bool false, .slice none 0 0]) (h0 : 0 < s.size) (hs : s.size ≤ 1000000)
    (hd : ∀ c ∈ s.data.toList, isDig c = true) :
    Calls Tryz.prog 86 #[.pointer (some ⟨b, 0, none⟩), .string s, .int .i64 10] w fun e w' =>
      e = .returned (.tuple #[.pointer (some ⟨b, 0, none⟩), .bool true]) ∧ (∃ ws, IntAt w' (w.heap.size + 1) b ws ∧ Ws ws ∧ Nrm ws ∧ val ws = dval s.data.toList) ∧ Below base w w' := by
  have HEnv := Lib.hid hEnv
  have HI := Lib.hid hI
  have HD := Lib.hid hd
  have hbl := hI.lt
  clear hEnv hI hd
  go_enter Tryz.func86, Tryz.ntmps86
  go_wp2_with fail
  refine (newReader_any s w).mono ?_
  rintro e w1 ⟨rfl, h1, h2, h3⟩
  have hEnv1 := HEnv.out.below h2
  have hI1 := HI.out.below h2
  have HEnv1 := Lib.hid hEnv1
  have HI1 := Lib.hid hI1
  have H1 := Lib.hid h1
  have H2 := Lib.hid h2
  have H3 := Lib.hid h3
  clear h1 h2 h3 hEnv1 hI1
  go_wp2_with fail
  (with_reducible refine (setScan_digits b w.heap.size s base w1 HEnv1.out hb (by omega) (by omega) hbs HI1.out H1.out h0 hs HD.out).mono ?_)
  rintro e w2 ⟨rfl, ⟨ws, g1, g2, g3, g4⟩, g5⟩
  have G1 := Lib.hid g1
  have G5 := Lib.hid g5
  clear g1 g5
  go_wp2_with fail
  go_ret2
  refine ⟨rfl, ⟨ws, ?_, g2, g3, g4⟩, (H2.out.mono (by omega)).trans G5.out⟩
  have := G1.out
  rwa [H3.out] at this

set_option maxHeartbeats 2000000 in
theorem setString_bad (b : Nat) (s : ByteArray) (base : Nat) (w : World) (hEnv : Env w) (hb : base ≤ b) (hbs : 16 < base) (hI : Arr w b 120 [.bool false, .slice none 0 0]) (hs : s.size ≤ 1000000) (hn : NoNum s.data.toList) :
    Calls Tryz.prog 86 #[.pointer (some ⟨b, 0, none⟩), .string s, .int .i64 10] w fun e w' => e = .returned (.tuple #[.pointer none, .bool false]) ∧ Below base w w' := by
  have HEnv := Lib.hid hEnv
  have HI := Lib.hid hI
  have HN := Lib.hid hn
  have hbl := hI.lt
  clear hEnv hI hn
  go_enter Tryz.func86, Tryz.ntmps86
  go_wp2_with fail
  refine (newReader_any s w).mono ?_
  rintro e w1 ⟨rfl, h1, h2, h3⟩
  have hsc : Calls Tryz.prog 100 #[.pointer (some ⟨b, 0, none⟩), .iface 136 (.pointer (some ⟨w.heap.size, 0, none⟩)), .int .i64 10] w1 fun e w' => e = .returned (.tuple #[.pointer none, .bool false]) ∧ Below base w1 w' := by
    by_cases h0 : s.size = 0
    · exact setScan_empty b w.heap.size s base w1 (HEnv.out.below h2) (by omega) hbs (by omega) h1 h0
    · exact setScan_bad b w.heap.size s base w1 (HEnv.out.below h2) hb (by omega) (by omega) hbs (HI.out.below h2) h1 (by omega) hs HN.out
  have HSC := Lib.hid hsc
  have H2 := Lib.hid h2
  have H3 := Lib.hid h3
  clear h1 h2 h3 hsc
  go_wp2_with fail
  (with_reducible refine HSC.out.mono ?_)
  rintro e w2 ⟨rfl, g5⟩
  have G5 := Lib.hid g5
  clear g5
  go_wp2_with fail
  go_ret2
  exact ⟨rfl, (H2.out.mono (by omega)).trans G5.out⟩

/-- The number that a text writes. -/
def ConvPost (s : ByteArray) (w : World) (e : Ending) (w' : World) : Prop :=
  ∃ b ws base, e = .returned (.tuple #[.pointer (some ⟨b, 0, none⟩), .nilIface]) ∧ IntAt w' base b ws ∧ w.heap.size ≤ b ∧ Ws ws ∧ Nrm ws ∧ val ws = dval s.data.toList ∧ Below w.heap.size w w'

set_option maxHeartbeats 2000000 in
theorem conv_digits (s : ByteArray) (w : World) (hEnv : Env w) (hs : s.size ≤ 1000000) (hd : allDig s.data.toList = true) : Calls Tryz.prog 70 #[.string s] w (ConvPost s w) := by
  have hd2 := (allDig_iff _).1 hd
  have h0 : 0 < s.size := by
    have := List.length_pos_iff.2 hd2.1
    rw [list_size] at this; exact this
  have HEnv := Lib.hid hEnv
  have HD := Lib.hid hd2.2
  have hsz := hEnv.size
  clear hEnv hd hd2
  go_enter Tryz.func70, Tryz.ntmps70
  go_wp2_with fail
  have hB : Below w.heap.size w (w.alloc (.cells #[.bool false, .slice none 0 0] 120)) := (Below.refl _ _).alloc (Nat.le_refl _) _
  have hA : Arr (w.alloc (.cells #[.bool false, .slice none 0 0] 120)) w.heap.size 120 [.bool false, .slice none 0 0] := Arr.new w 120 [.bool false, .slice none 0 0]
  (with_reducible refine (setString_digits w.heap.size s w.heap.size (w.alloc (.cells #[.bool false, .slice none 0 0] 120)) (HEnv.out.below hB) (Nat.le_refl _) hsz hA h0 hs HD.out).mono ?_)
  rintro e w2 ⟨rfl, ⟨ws, g1, g2, g3, g4⟩, g5⟩
  have G1 := Lib.hid g1
  have G5 := Lib.hid g5
  have HB := Lib.hid hB
  clear g1 g5 hB hA
  go_wp2_with fail
  go_ret2
  exact ⟨_, ws, _, rfl, G1.out, Nat.le_refl _, g2, g3, g4, HB.out.trans G5.out⟩

def NoConv (w : World) (e : Ending) (w' : World) : Prop := (∃ a, e = .returned (.tuple #[.pointer none, ifp a])) ∧ Below w.heap.size w w'

set_option maxHeartbeats 2000000 in
theorem conv_bad (s : ByteArray) (w : World) (hEnv : Env w) (hs : s.size ≤ 1000000) (hn : NoNum s.data.toList) : Calls Tryz.prog 70 #[.string s] w (NoConv w) := by
  obtain ⟨ai, hV⟩ := hEnv.inv
  have HEnv := Lib.hid hEnv
  have HN := Lib.hid hn
  have HV := Lib.hid hV
  have hsz := hEnv.size
  clear hEnv hn hV
  go_enter Tryz.func70, Tryz.ntmps70
  go_wp2_with fail
  have hB : Below w.heap.size w (w.alloc (.cells #[.bool false, .slice none 0 0] 120)) := (Below.refl _ _).alloc (Nat.le_refl _) _
  have hA : Arr (w.alloc (.cells #[.bool false, .slice none 0 0] 120)) w.heap.size 120 [.bool false, .slice none 0 0] := Arr.new w 120 [.bool false, .slice none 0 0]
  (with_reducible refine (setString_bad w.heap.size s w.heap.size (w.alloc (.cells #[.bool false, .slice none 0 0] 120)) (HEnv.out.below hB) (Nat.le_refl _) hsz hA hs HN.out).mono ?_)
  rintro e w2 ⟨rfl, g5⟩
  have hb2 : Below w.heap.size w w2 := hB.trans g5
  have hV2 := cell_keep hb2 HV.out
  have HB2 := Lib.hid hb2
  unfold ifp at hV2
  clear g5 hB hA hb2
  go_wp2_with fail
  go_quiet (fail)
  go_wp2_with fail
  go_ret2
  exact ⟨⟨ai, rfl⟩, below_drewN' HB2.out _⟩
end Go.Proofs.Tz
