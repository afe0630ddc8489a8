/- Contract of nat.scan at base 10: digits alone. -/
import Derived.Test.YtcehboopgjpfcaaGreatDoorAB
import Derived.LaidEql
namespace Go.Proofs.Tz
open Go.RowKit Mv

theorem eql_ifp (a : Addr) (w : World) : (binOp .eql 71 (ifp a) (ifp a)).run Tryz.prog w = .ok (.bool true) w := by
  have h1 : (Tryz.prog.info? 296).map (·.comparable) = some true := by kernel_rfl
  have h2 : (Tryz.prog.info? 311).map (·.size) = some 1 := by kernel_rfl
  obtain ⟨i, hi, hc⟩ := Option.map_eq_some_iff.1 h1
  obtain ⟨j, hj, _⟩ := Option.map_eq_some_iff.1 h2
  exact run_eql_iface_ptr_same w a Tryz.underlying71 Tryz.underlying296 hi hc hj

theorem mulAddN_len (xs : List Nat) (y r : Nat) : (mulAddN xs y r).length ≤ xs.length + 1 := by
  unfold mulAddN
  split
  · split <;> simp
  · obtain ⟨n, h1, h2, _⟩ := normL_take ((mulAddL y r xs).1 ++ [(mulAddL y r xs).2])
    rw [h2]
    have := mulAddL_len y xs r
    simp only [List.length_take, List.length_append, List.length_singleton]
    omega

theorem dval_append (a b : Bs) : dval (a ++ b) = dval a * 10 ^ b.length + dval b := by
  rw [dval, dvalA_append, dvalA_lin]; rfl

/-- What the scan has read: q words of 19 digits, m digits more. -/
def Read (wr : World) (base : Nat) (t : Bs) (q m : Nat) (v : Value) (D : Nat) : Prop :=
  ∃ ws, NatAt wr base v ws ∧ capOf v ≤ q + 10 ∧ ws.length ≤ q ∧ Ws ws ∧ Nrm ws ∧ val ws = dval (t.take (19 * q)) ∧ D = dval ((t.drop (19 * q)).take m) ∧ D < 10 ^ m

/-- Where the reader stands when j bytes have been looked at. -/
def Stands (wr : World) (p : Nat) (s : ByteArray) (ae : Addr) (j : Nat) (ch err : Value) : Prop :=
  (∃ h : j < s.size, Rdr wr p s (j + 1) ∧ ch = .int .u8 (s[j].toNat : Int) ∧ err = .nilIface) ∨ (j = s.size ∧ Rdr wr p s s.size ∧ ch = .int .u8 0 ∧ err = ifp ae)

def ReadPost (p : Nat) (s : ByteArray) (ae : Addr) (j : Nat) (w : World) (e : Ending) (w' : World) : Prop :=
  ∃ ch err, e = .returned (.tuple #[ch, err]) ∧ Stands w' p s ae j ch err ∧ w.grownBy w' (some p) ∧ w'.heap.size = w.heap.size

theorem readByte_st (p : Nat) (s : ByteArray) (ae : Addr) (j : Nat) (hj : j ≤ s.size) (hs : s.size ≤ 1000000000) (w : World) (hR : Rdr w p s j) (hE : w.cell? ⟨3, 0, none⟩ = some (ifp ae)) (hp : 3 < p) :
    Calls Tryz.prog 287 #[.pointer (some ⟨p, 0, none⟩)] w (ReadPost p s ae j w) := by
  by_cases h : j < s.size
  · exact (readByte_some p s j h hs w hR).mono fun e w' ⟨h1, h2, h3, h4⟩ => ⟨_, _, h1, .inl ⟨h, h2, rfl, rfl⟩, h3, h4⟩
  · have e : j = s.size := by omega
    subst e
    exact (readByte_none p s (ifp ae) w hR hs hE hp).mono fun e w' ⟨h1, h2, h3, h4⟩ => ⟨_, _, h1, .inr ⟨rfl, h2, rfl, rfl⟩, h3, h4⟩

theorem read_step {wr : World} {base q m : Nat} {t : Bs} {v : Value} {D : Nat} {c : UInt8} (h : Read wr base t q m v D) (hc : t[q * 19 + m]? = some c) (hd : isDig c = true) :
    Read wr base t q (m + 1) v (D * 10 + (c.toNat - 48)) := by
  obtain ⟨ws, h1, h2, h3, h4, h5, h6, h7, h8⟩ := h
  have hb := (isDig_iff c).1 hd
  refine ⟨ws, h1, h2, h3, h4, h5, h6, ?_, ?_⟩
  · have : (t.drop (19 * q))[m]? = some c := by rw [List.getElem?_drop, show 19 * q + m = q * 19 + m by omega]; exact hc
    rw [List.take_add_one, this, Option.toList_some, dval_snoc, ← h7]; omega
  · rw [Nat.pow_succ]; omega

/-- The chunk is full: into the number. -/
theorem read_full {wr w' : World} {base q : Nat} {t : Bs} {v v' : Value} {D : Nat} {ws : List Nat} (hv : val ws = dval (t.take (19 * q))) (hD : D = dval ((t.drop (19 * q)).take 19)) (ht : 19 * q + 19 ≤ t.length)
    (hw : Ws ws) (hl : ws.length ≤ q) (hcap : capOf v ≤ q + 10) (hDB : D < WB) (hg : Gave wr w' base v v' (mulAddN ws 10000000000000000000 D) (ws.length + 5)) : Read w' base t (q + 1) 0 v' 0 := by
  refine ⟨_, hg.1, ?_, ?_, mulAddN_ws hw (by unfold WB; omega) hDB, mulAddN_nrm _ _ _, ?_, by rw [List.take_zero, dval_nil], by simp⟩
  · have := hg.2.2.2; omega
  · have := mulAddN_len ws 10000000000000000000 D; omega
  · rw [mulAddN_val _ _ _ (by omega), hv, hD, show 19 * (q + 1) = 19 * q + 19 by omega, List.take_add, dval_append]
    have : ((t.drop (19 * q)).take 19).length = 19 := by simp; omega
    rw [this]; omega

set_option maxHeartbeats 4000000 in
set_option maxRecDepth 100000 in
theorem scan_digits (p : Nat) (s : ByteArray) (ae : Addr) (w : World) (hR : Rdr w p s 0) (h0 : 0 < s.size) (hs : s.size ≤ 1000000) (hd : ∀ c ∈ s.data.toList, isDig c = true) (hE : w.cell? ⟨3, 0, none⟩ = some (ifp ae)) (hp : 3 < p) :
    Calls Tryz.prog 140 #[.slice none 0 0, .iface 136 (.pointer (some ⟨p, 0, none⟩)), .int .i64 10, .bool false] w fun e w' =>
      ∃ v ws, e = .returned (.tuple #[v, .int .i64 10, .int .i64 s.size, .nilIface]) ∧ NatAt w' w.heap.size v ws ∧ Ws ws ∧ Nrm ws ∧ val ws = dval s.data.toList ∧ Rdr w' p s s.size ∧ w.grownBy w' (some p) := by
  have m1 := ahead_read ⟨p, 0, none⟩
  have m2 := method_read ⟨p, 0, none⟩
  have HPB : Hid (p < w.heap.size) := Lib.hid hR.lt
  have HR := Lib.hid hR
  have HE := Lib.hid hE
  have HD := Lib.hid hd
  clear hR hE hd
  go_enter Tryz.func140, Tryz.ntmps140
  go_wp2_with fail
  refine (readByte_some p s 0 h0 (by omega) _ HR.out).mono ?_
  rintro e w1 ⟨rfl, h1, h2, h3⟩
  have H1 := Lib.hid h1
  have H2 := Lib.hid h2
  have H3 := Lib.hid h3
  clear h1 h2 h3
  go_wp2_with fail
  refine (maxPow_ten _).mono ?_
  rintro e w' ⟨rfl, rfl⟩
  have hn : s.data.toList.length = s.size := by simp
  have HN := Lib.hid hn
  clear hn
  go_wp2_with fail
  go_loopw [0, 3, 10, 11, 13, 14, 15, 20, 21, 22] (fun z fo cnt err prev inv ch di i dp wr => ∃ (zv : Value) (q m D : Nat) (pv : Int), zv = z ∧ q * 19 + m ≤ s.size ∧ m ≤ 18 ∧ Hid (Read wr w.heap.size s.data.toList q m zv D) ∧ Hid (Stands wr p s ae (q * 19 + m) ch err) ∧ Hid (w.grownBy wr (some p)) ∧ Hid (w.heap.size ≤ wr.heap.size) ∧
      di = .int .u64 (D : Int) ∧ i = .int .i64 (m : Int) ∧ cnt = .int .i64 ((q * 19 + m : Nat) : Int) ∧ fo = .bool false ∧ inv = .bool false ∧ dp = .int .i64 (-1) ∧ prev = .int .i32 pv ∧ Hid ((pv == 95) = false)) (fun _ _ cnt _ _ _ _ _ _ _ _ => s.size - (intOf cnt).toNat)
  case atStart =>
    refine ⟨_, 0, 0, 0, 46, rfl, by omega, by omega, ?_, ?_, H2, Lib.hid (by rw [H3.out]; exact Nat.le_refl _), rfl, rfl, rfl, rfl, rfl, rfl, rfl, Lib.hid rfl⟩
    · exact Lib.hid ⟨[], NatAt.nil _ _, by simp [capOf], by simp, Ws.nil, Nrm.nil, by simp [val_nil, dval_nil], by simp [dval_nil], by simp⟩
    · exact Lib.hid (.inl ⟨h0, H1.out, rfl, rfl⟩)
  case round =>
    obtain ⟨zv, q, m, D, pv, rfl, hj, hm, HRD, HST, HG, HZ, rfl, rfl, rfl, rfl, rfl, rfl, rfl, HPV⟩ := hrel
    rcases HST.out with ⟨hlt, hr, rfl, rfl⟩ | ⟨hend, hr, rfl, rfl⟩
    · obtain ⟨c, hc⟩ : ∃ c, c = s[q * 19 + m] := ⟨_, rfl⟩
      rw [← hc]
      have hct : s.data.toList[q * 19 + m]? = some c := by
        rw [List.getElem?_eq_getElem (by rw [HN.out]; exact hlt), hc]; rfl
      have hdig := HD.out c (List.mem_of_getElem? hct)
      have hcb := (isDig_iff c).1 hdig
      have b1 : (48 : Int) ≤ (c.toNat : Int) := by omega
      have b2 : (c.toNat : Int) ≤ 57 := by omega
      have hstep := read_step HRD.out hct hdig
      have hD := (show D < 10 ^ m from HRD.out.choose_spec.2.2.2.2.2.2.2)
      have hD18 : D < 10 ^ 18 := Nat.lt_of_lt_of_le hD (Nat.pow_le_pow_right (by omega) hm)
      obtain ⟨E, hE⟩ : ∃ E, E = D * 10 := ⟨_, rfl⟩
      obtain ⟨F, hF⟩ : ∃ F, F = D * 10 + (c.toNat - 48) := ⟨_, rfl⟩
      rw [← hF] at hstep
      have hw1 : IntKind.u64.wrap ((D : Int) * 10) = (E : Int) := by
        have := wrap_u64_nat (D * 10) (by unfold WB; omega)
        rw [hE]; simpa using this
      have hw2 : IntKind.u64.wrap ((E : Int) + ((c.toNat : Int) - 48)) = (F : Int) := by
        have := wrap_u64_nat F (by unfold WB; omega)
        rw [← this]; congr 1; omega
      have HS1 := Lib.hid hstep
      have HC := Lib.hid hc
      have HD18 := Lib.hid hD18
      have HR2 := Lib.hid hr
      have hEr := (World.cell?_of_block (a := ⟨3, 0, none⟩) (HG.out.block 3 (World.block_lt_of_cell? w _ HE.out) (by simp; omega))).trans HE.out
      have HE2 := Lib.hid hEr
      clear hstep hc hct hdig hcb hD hD18 hr hEr hE hF
      by_cases h18 : m = 18
      · subst h18
        obtain ⟨ws, g1, g2, g3, g4, g5, g6, g7, g8⟩ := HS1.out
        have hDW : F < WB := Nat.lt_of_lt_of_le g8 (by unfold WB; omega)
        have G1 := Lib.hid g1
        have G2 := Lib.hid g2
        have G6 := Lib.hid g6
        have G7 := Lib.hid g7
        have G4 := Lib.hid g4
        clear g1 g2 g6 g7 g4 g5 g8 HS1 HRD
        go_wp2_with fail
        have hmw := mulAddWW_any w.heap.size zv ws 10000000000000000000 F wr G1.out HZ.out (by have := G2.out; omega) (by omega) G4.out (by unfold WB; omega) (by omega) hDW
        rw [show ((10000000000000000000 : Nat) : Int) = 10000000000000000000 from rfl] at hmw
        (with_reducible refine hmw.mono ?_)
        rintro e w2 ⟨v', rfl, hg⟩
        have hown : some p ≠ zv.ownBlock := by
          rcases G1.out with ⟨rfl, _⟩ | ⟨b, cap, cs, rfl, hb, _⟩
          · simp [Value.ownBlock]
          · simp only [Value.ownBlock]; intro e; injection e with e; have := HPB.out; omega
        have hown3 : some 3 ≠ zv.ownBlock := by
          rcases G1.out with ⟨rfl, _⟩ | ⟨b, cap, cs, rfl, hb, _⟩
          · simp [Value.ownBlock]
          · simp only [Value.ownBlock]; intro e; injection e with e; have := HPB.out; omega
        have hR2 : Rdr w2 p s (q * 19 + 18 + 1) := HR2.out.other hg.2.1 hown
        have hE3 : w2.cell? ⟨3, 0, none⟩ = some (ifp ae) := (World.cell?_of_block (hg.2.1.block 3 (World.block_lt_of_cell? _ _ HE2.out) hown3)).trans HE2.out
        have HR3 := Lib.hid hR2
        have HE3 := Lib.hid hE3
        have HGV := Lib.hid hg
        have HO := Lib.hid hown
        clear hR2 hE3 hg hmw hown hown3
        go_wp2_with fail
        (with_reducible refine (readByte_st p s ae (q * 19 + 18 + 1) (by omega) (by omega) _ HR3.out HE3.out hp).mono ?_)
        rintro e w3 ⟨ch, err, rfl, k1, k2, k3⟩
        have K1 := Lib.hid k1
        have K2 := Lib.hid k2
        have K3 := Lib.hid k3
        clear k1 k2 k3
        go_wp2_with fail
        go_roundw
        case rel =>
          have hread : Read w2 w.heap.size s.data.toList (q + 1) 0 v' 0 :=
            read_full G6.out G7.out (by rw [HN.out]; omega) G4.out g3 G2.out hDW HGV.out
          have hread3 : Read w3 w.heap.size s.data.toList (q + 1) 0 v' 0 := by
            obtain ⟨ws', g1, g2⟩ := hread
            refine ⟨ws', g1.other K2.out ?_, g2⟩
            rcases g1 with ⟨rfl, _⟩ | ⟨b, cap, cs, rfl, hb, _⟩
            · exact .inl rfl
            · exact .inr (by simp only [Value.ownBlock]; intro e; injection e with e; have := HPB.out; omega)
          have hgp : w.grownBy w2 (some p) := by
            refine ⟨HGV.out.2.1.os.trans HG.out.os, HGV.out.2.1.tape.trans HG.out.tape, HGV.out.2.1.output.trans HG.out.output, Nat.le_trans HG.out.size HGV.out.2.1.size, fun k hk hne => ?_⟩
            refine (HGV.out.2.1.block k (Nat.lt_of_lt_of_le hk HG.out.size) ?_).trans (HG.out.block k hk hne)
            rcases G1.out with ⟨rfl, _⟩ | ⟨b, cap, cs, rfl, hb, _⟩
            · simp [Value.ownBlock]
            · simp only [Value.ownBlock]; intro e; injection e with e; omega
          have hst : Stands w3 p s ae ((q + 1) * 19 + 0) ch err := by
            have := K1.out
            rwa [show q * 19 + 18 + 1 = (q + 1) * 19 + 0 by omega] at this
          exact ⟨v', q + 1, 0, 0, 48, rfl, by omega, by omega, Lib.hid hread3, Lib.hid hst, Lib.hid (grown_trans hgp K2.out), Lib.hid (by rw [K3.out]; exact Nat.le_trans HZ.out HGV.out.2.1.size), rfl, rfl, by go_num, rfl, rfl, rfl, rfl, Lib.hid rfl⟩
        case measure => simp [intOf]; omega
      · have h18b : ((m : Int) + 1 == 19) = false := by simp; omega
        go_wp2_with fail
        refine (readByte_st p s ae (q * 19 + m + 1) (by omega) (by omega) _ HR2.out HE2.out hp).mono ?_
        rintro e w3 ⟨ch, err, rfl, k1, k2, k3⟩
        have K1 := Lib.hid k1
        have K2 := Lib.hid k2
        have K3 := Lib.hid k3
        clear k1 k2 k3
        go_wp2_with fail
        go_roundw
        case rel =>
          have hread : Read w3 w.heap.size s.data.toList q (m + 1) zv F := by
            obtain ⟨ws, g1, g2⟩ := HS1.out
            refine ⟨ws, g1.other K2.out ?_, g2⟩
            rcases g1 with ⟨rfl, _⟩ | ⟨b, cap, cs, rfl, hb, _⟩
            · exact .inl rfl
            · exact .inr (by simp only [Value.ownBlock]; intro e; injection e with e; have := hp; have := HPB.out; omega)
          refine ⟨zv, q, m + 1, F, 48, rfl, by omega, by omega, Lib.hid hread, Lib.hid K1.out, Lib.hid (grown_trans HG.out K2.out), Lib.hid (by rw [K3.out]; exact HZ.out), rfl, by go_num, by go_num, rfl, rfl, rfl, rfl, Lib.hid rfl⟩
        case measure => simp [intOf]; omega
    · have hEr := (World.cell?_of_block (a := ⟨3, 0, none⟩) (HG.out.block 3 (World.block_lt_of_cell? w _ HE.out) (by simp; omega))).trans HE.out
      have heq := eql_ifp ae
      unfold ifp at heq hEr
      have hcnt : (((q * 19 + m : Nat) : Int) == 0) = false := by simp; omega
      obtain ⟨ws, g1, g2, g3, g4, g5, g6, g7, g8⟩ := HRD.out
      have HEND := Lib.hid hend
      have HR2 := Lib.hid hr
      have G1 := Lib.hid g1
      have G2 := Lib.hid g2
      have G5 := Lib.hid g5
      have G6 := Lib.hid g6
      have G7 := Lib.hid g7
      have G8 := Lib.hid g8
      have G4 := Lib.hid g4
      have hq : q ≤ 1000000 := by omega
      clear hend hr g1 g2 g4 g5 g6 g7 g8 HRD hj
      unfold ifp
      have hpv := HPV.out
      by_cases hm0 : m = 0
      · subst hm0
        go_wp2_with fail
        refine bodyPost_ret (v := .tuple #[zv, .int .i64 10, .int .i64 (s.size : Int), .nilIface]) ?_ rfl ?_
        · have : ((q * 19 : Nat) : Int) = (s.size : Int) := by have := HEND.out; omega
          simp [results, Tryz.results140, go_sem, ← HEND.out]
        · refine ⟨zv, ws, rfl, G1.out, G4.out, G5.out, ?_, HR2.out, HG.out⟩
          rw [G6.out, List.take_of_length_le (by rw [HN.out]; have := HEND.out; omega)]
      · have hmb : decide ((0 : Int) < (m : Int)) = true := decide_eq_true (by omega)
        go_wp2_with fail
        (with_reducible refine (pow_any m (by omega) hm _).mono ?_)
        rintro e w2 ⟨rfl, rfl⟩
        go_wp2_with fail
        have hDW : D < WB := Nat.lt_of_lt_of_le G8.out (Nat.le_trans (Nat.pow_le_pow_right (by omega) hm) (by unfold WB; omega))
        have hyB : 10 ^ m < WB := Nat.lt_of_le_of_lt (Nat.pow_le_pow_right (by omega) hm) (by unfold WB; omega)
        have hmw := mulAddWW_any w.heap.size zv ws (10 ^ m) D wr G1.out HZ.out (by have := G2.out; omega) (by omega) G4.out hyB (Nat.pos_iff_ne_zero.1 (Nat.pow_pos (by omega))) hDW
        rw [← p10_eq (by omega)] at hmw
        (with_reducible refine hmw.mono ?_)
        rintro e w2 ⟨v', rfl, hg⟩
        have HGV := Lib.hid hg
        have hown : some p ≠ zv.ownBlock := by
          rcases G1.out with ⟨rfl, _⟩ | ⟨b, cap, cs, rfl, hb, _⟩
          · simp [Value.ownBlock]
          · simp only [Value.ownBlock]; intro e; injection e with e; have := HPB.out; omega
        have hR3 : Rdr w2 p s s.size := HR2.out.other hg.2.1 hown
        have HR3 := Lib.hid hR3
        clear hg hmw hown hR3 hDW hyB
        go_wp2_with fail
        refine bodyPost_ret (v := .tuple #[v', .int .i64 10, .int .i64 (s.size : Int), .nilIface]) ?_ rfl ?_
        · have : ((q * 19 : Nat) : Int) + (m : Int) = (s.size : Int) := by have := HEND.out; omega
          simp [results, Tryz.results140, go_sem, ← HEND.out]
        · refine ⟨v', _, rfl, HGV.out.1, mulAddN_ws G4.out (Nat.lt_of_le_of_lt (Nat.pow_le_pow_right (by omega) hm) (by unfold WB; omega)) (Nat.lt_of_lt_of_le G8.out (Nat.le_trans (Nat.pow_le_pow_right (by omega) hm) (by unfold WB; omega))), mulAddN_nrm _ _ _, ?_, HR3.out, ?_⟩
          · rw [mulAddN_val _ _ _ (Nat.pos_iff_ne_zero.1 (Nat.pow_pos (by omega))), G6.out, G7.out]
            have e : s.data.toList = s.data.toList.take (19 * q) ++ s.data.toList.drop (19 * q) := (List.take_append_drop _ _).symm
            have hdl : (s.data.toList.drop (19 * q)).length = m := by rw [List.length_drop, HN.out]; have := HEND.out; omega
            rw [List.take_of_length_le (l := s.data.toList.drop (19 * q)) (by omega)]
            rw [show dval s.data.toList = dval (s.data.toList.take (19 * q) ++ s.data.toList.drop (19 * q)) by rw [← e], dval_append, hdl, Nat.mul_comm]
          · refine ⟨HGV.out.2.1.os.trans HG.out.os, HGV.out.2.1.tape.trans HG.out.tape, HGV.out.2.1.output.trans HG.out.output, Nat.le_trans HG.out.size HGV.out.2.1.size, fun k hk hne => ?_⟩
            refine (HGV.out.2.1.block k (Nat.lt_of_lt_of_le hk HG.out.size) ?_).trans (HG.out.block k hk hne)
            rcases G1.out with ⟨rfl, _⟩ | ⟨b, cap, cs, rfl, hb, _⟩
            · simp [Value.ownBlock]
            · simp only [Value.ownBlock]; intro e; injection e with e; omega
end Go.Proofs.Tz
