/- Contract of a token's lessThan (printed by gen_f4.py). -/
import Derived.Test.YtcehboopgjpfcaaGreatDoorF3
namespace Go.Proofs.Tz
open Go.RowKit Mv

theorem IntAt.below {w w' : World} {base b : Nat} {ws : List Nat} (h : IntAt w base b ws) (hb : Below w.heap.size w w') : IntAt w' base b ws := by
  obtain ⟨v, h1, h2, h3⟩ := h
  exact ⟨v, h1.below hb, h2.below hb, h3⟩
theorem words_len {ws : List Nat} {v : Bs} (hn : Nrm ws) (hv : val ws = dval v) (hd : allDig v = true) : ws.length ≤ v.length := by
  refine len_le hn ?_
  rw [hv]
  exact Nat.lt_of_lt_of_le (dval_lt v ((allDig_iff v).1 hd).2) (Nat.pow_le_pow_left (by decide) _)
theorem bytesLess_eq : ∀ (x y : Bs), Op.bytesLess x y = bless x y
  | [], [] => rfl
  | [], _ :: _ => rfl
  | _ :: _, [] => rfl
  | c :: x, d :: y => by
    have ih := bytesLess_eq x y
    simp only [Op.bytesLess, bless, ih]
theorem nonum_dig {v : Bs} (h : NoNum v) : allDig v = false := by
  cases hd : allDig v
  · rfl
  · have h1 := (allDig_iff v).1 hd
    obtain ⟨c, hc⟩ := List.exists_mem_of_ne_nil v h1.1
    have := (h c hc).1
    rw [h1.2 c hc] at this; cases this

set_option maxHeartbeats 8000000 in
set_option maxRecDepth 100000 in
theorem less_tt (g o : Nat) (a b : Tok) (r : Bool) (w : World) (hE : Env w) (hK : KwAt w) (hT : TokAt w g o a) (va : a.v.length ≤ 1000000) (vb : b.v.length ≤ 1000000) (hp : a.p = b.p) (hr : tless a b = some r) (hda : allDig a.v = true) (hdb : allDig b.v = true) :
    Calls Tryz.prog 90 #[.pointer (some ⟨g, o, none⟩), tagg b] w fun e w' => e = .returned (.tuple #[.bool r, .nilIface]) ∧ Below w.heap.size w w' := by
  obtain ⟨c0, c1, c2⟩ := hT
  obtain ⟨ap, av, an⟩ := a
  obtain ⟨bp, bv, bn⟩ := b
  have hp : ap = bp := hp
  subst hp
  unfold sv at c0 c1
  unfold tagg sv
  have htl := str_toList
  have hbl := bytesLess_eq
  have m1 : (ap == ap) = true := by simp
  obtain ⟨wb, hwb⟩ : ∃ x, x = w.alloc (Obj.cells #[Value.string (str ap), Value.string (str bv), Value.bool bn] 84) := ⟨_, rfl⟩
  have hBb : Below w.heap.size w wb := by rw [hwb]; exact (Below.refl _ _).alloc (Nat.le_refl _) _
  have hAb : Arr wb w.heap.size 84 [sv ap, sv bv, .bool bn] := by rw [hwb]; exact Arr.new _ _ _
  have va : av.length ≤ 1000000 := va
  have vb : bv.length ≤ 1000000 := vb
  have hda : allDig av = true := hda
  have hdb : allDig bv = true := hdb
  have HD1 := Lib.hid hda
  have HD2 := Lib.hid hdb
  have hr0 : r = decide (dval av < dval bv) := by
    unfold tless at hr
    simp only [if_true, hda, hdb, and_self] at hr
    injection hr with hr; exact hr.symm
  have HR0 := Lib.hid hr0
  clear hr hr0 hda hdb
  have HBb := Lib.hid hBb
  have HAb := Lib.hid hAb
  have HE := Lib.hid (hE.below hBb)
  have HK := Lib.hid (hK.below hBb)
  have c0 := cell_keep hBb c0
  have c1 := cell_keep hBb c1
  have c2 := cell_keep hBb c2
  have k0 : wb.cell? ⟨w.heap.size, 0, none⟩ = some (.string (str ap)) := hAb.cell (j := 0) rfl
  have k1 : wb.cell? ⟨w.heap.size, 1, none⟩ = some (.string (str bv)) := hAb.cell (j := 1) rfl
  have k2 : wb.cell? ⟨w.heap.size, 2, none⟩ = some (.bool bn) := hAb.cell (j := 2) rfl
  clear hE hK hBb hAb
  go_enter Tryz.func90, Tryz.ntmps90
  go_wp2_with fail
  rw [← hwb]
  clear hwb
  go_quiet (fail)
  obtain ⟨w9, hw9⟩ : ∃ x, x = wb.drewN nq := ⟨_, rfl⟩
  have hB9 : Below wb.heap.size wb w9 := by rw [hw9]; exact below_drewN' (Below.refl _ _) _
  have c1 := cell_keep hB9 c1
  have c2 := cell_keep hB9 c2
  have k1 := cell_keep hB9 k1
  have k2 := cell_keep hB9 k2
  have HE := Lib.hid (HE.out.below hB9)
  have HK := Lib.hid (HK.out.below hB9)
  have HB9 := Lib.hid (HBb.out.trans (hB9.mono HBb.out.size))
  rw [← hw9]
  clear hw9 hB9 c0 k0
  go_wp2_with fail
  (with_reducible refine (conv_digits (str av) w9 HE.out (by rw [str_size]; assumption) (by rw [str_list]; exact HD1.out)).mono ?_)
  rintro e x1 ⟨q1, ws1, base1, rfl, hI1, hbb1, hws1, hnr1, hval1, hC1⟩
  rw [str_list] at hval1
  have c1 := cell_keep hC1 c1
  have c2 := cell_keep hC1 c2
  have k1 := cell_keep hC1 k1
  have k2 := cell_keep hC1 k2
  have HE := Lib.hid (HE.out.below hC1)
  have HK := Lib.hid (HK.out.below hC1)
  have HB10 := Lib.hid (HB9.out.trans (hC1.mono HB9.out.size))
  go_wp2_with fail
  (with_reducible refine (conv_digits (str bv) x1 HE.out (by rw [str_size]; assumption) (by rw [str_list]; exact HD2.out)).mono ?_)
  rintro e x2 ⟨q2, ws2, base2, rfl, hI2, hbb2, hws2, hnr2, hval2, hC2⟩
  rw [str_list] at hval2
  have c1 := cell_keep hC2 c1
  have c2 := cell_keep hC2 c2
  have k1 := cell_keep hC2 k1
  have k2 := cell_keep hC2 k2
  have HE := Lib.hid (HE.out.below hC2)
  have HK := Lib.hid (HK.out.below hC2)
  have HB11 := Lib.hid (HB10.out.trans (hC2.mono HB10.out.size))
  have hI1 := hI1.below hC2
  have hne : q1 ≠ q2 := by
    obtain ⟨_, hA1, _, _⟩ := hI1
    intro e
    obtain ⟨_, hA0, _⟩ := (show IntAt x1 base1 q1 ws1 from by assumption)
    have := hA0.lt
    omega
  have hw1 := words_len hnr1 hval1 HD1.out
  have hw2 := words_len hnr2 hval2 HD2.out
  have hcm := intCmp_any q1 q2 ws1 ws2 base1 base2 x2 hI1 hI2 hne hws1 hws2 hnr1 hnr2 (by omega) (by omega)
  rw [hval1, hval2] at hcm
  have HCM := Lib.hid hcm
  have hce : ((cmpN (dval av) (dval bv)) == -1) = decide (dval av < dval bv) := by
    rcases cmpN_mem (dval av) (dval bv) with ⟨h, h'⟩ | ⟨h, h'⟩ | ⟨h, h'⟩ <;> rw [h] <;> simp <;> omega
  have HCE := Lib.hid hce
  clear hI1 hI2 hbb1 hbb2 hws1 hws2 hnr1 hnr2 hval1 hval2 hC1 hC2 hne hw1 hw2 hcm hce
  go_wp2_with fail
  (with_reducible refine (HCM.out).mono ?_)
  rintro e x3 ⟨rfl, hC3⟩
  have HB12 := Lib.hid (HB11.out.trans (hC3.mono HB11.out.size))
  clear hC3
  go_wp2_with fail
  go_ret2
  exact ⟨by rw [HR0.out, ← HCE.out]; rfl, HB12.out⟩

set_option maxHeartbeats 8000000 in
set_option maxRecDepth 100000 in
theorem less_tf0 (g o : Nat) (a b : Tok) (r : Bool) (w : World) (hE : Env w) (hK : KwAt w) (hT : TokAt w g o a) (va : a.v.length ≤ 1000000) (vb : b.v.length ≤ 1000000) (hp : a.p = b.p) (hr : tless a b = some r) (hda : allDig a.v = true) (hnb : NoNum b.v) (hn : a.n = false) :
    Calls Tryz.prog 90 #[.pointer (some ⟨g, o, none⟩), tagg b] w fun e w' => e = .returned (.tuple #[.bool r, .nilIface]) ∧ Below w.heap.size w w' := by
  obtain ⟨c0, c1, c2⟩ := hT
  obtain ⟨ap, av, an⟩ := a
  obtain ⟨bp, bv, bn⟩ := b
  have hp : ap = bp := hp
  subst hp
  unfold sv at c0 c1
  unfold tagg sv
  have htl := str_toList
  have hbl := bytesLess_eq
  have m1 : (ap == ap) = true := by simp
  obtain ⟨wb, hwb⟩ : ∃ x, x = w.alloc (Obj.cells #[Value.string (str ap), Value.string (str bv), Value.bool bn] 84) := ⟨_, rfl⟩
  have hBb : Below w.heap.size w wb := by rw [hwb]; exact (Below.refl _ _).alloc (Nat.le_refl _) _
  have hAb : Arr wb w.heap.size 84 [sv ap, sv bv, .bool bn] := by rw [hwb]; exact Arr.new _ _ _
  have hdb := nonum_dig hnb
  have hn : an = false := hn
  have va : av.length ≤ 1000000 := va
  have vb : bv.length ≤ 1000000 := vb
  have hda : allDig av = true := hda
  have hdb : allDig bv = false := hdb
  have HD1 := Lib.hid hda
  have HD2 := Lib.hid (show NoNum bv from hnb)
  have hr0 : r = false := by
    unfold tless at hr
    simp only [if_true, hda, hdb, hn, Bool.false_eq_true, and_false, false_and, and_self, if_false] at hr
    injection hr with hr; exact hr.symm
  subst hr0
  clear hr hda hdb hnb
  subst hn
  have HBb := Lib.hid hBb
  have HAb := Lib.hid hAb
  have HE := Lib.hid (hE.below hBb)
  have HK := Lib.hid (hK.below hBb)
  have c0 := cell_keep hBb c0
  have c1 := cell_keep hBb c1
  have c2 := cell_keep hBb c2
  have k0 : wb.cell? ⟨w.heap.size, 0, none⟩ = some (.string (str ap)) := hAb.cell (j := 0) rfl
  have k1 : wb.cell? ⟨w.heap.size, 1, none⟩ = some (.string (str bv)) := hAb.cell (j := 1) rfl
  have k2 : wb.cell? ⟨w.heap.size, 2, none⟩ = some (.bool bn) := hAb.cell (j := 2) rfl
  clear hE hK hBb hAb
  go_enter Tryz.func90, Tryz.ntmps90
  go_wp2_with fail
  rw [← hwb]
  clear hwb
  go_quiet (fail)
  obtain ⟨w9, hw9⟩ : ∃ x, x = wb.drewN nq := ⟨_, rfl⟩
  have hB9 : Below wb.heap.size wb w9 := by rw [hw9]; exact below_drewN' (Below.refl _ _) _
  have c1 := cell_keep hB9 c1
  have c2 := cell_keep hB9 c2
  have k1 := cell_keep hB9 k1
  have k2 := cell_keep hB9 k2
  have HE := Lib.hid (HE.out.below hB9)
  have HK := Lib.hid (HK.out.below hB9)
  have HB9 := Lib.hid (HBb.out.trans (hB9.mono HBb.out.size))
  rw [← hw9]
  clear hw9 hB9 c0 k0
  go_wp2_with fail
  (with_reducible refine (conv_digits (str av) w9 HE.out (by rw [str_size]; assumption) (by rw [str_list]; exact HD1.out)).mono ?_)
  rintro e x1 ⟨q1, ws1, base1, rfl, hI1, hbb1, hws1, hnr1, hval1, hC1⟩
  rw [str_list] at hval1
  have c1 := cell_keep hC1 c1
  have c2 := cell_keep hC1 c2
  have k1 := cell_keep hC1 k1
  have k2 := cell_keep hC1 k2
  have HE := Lib.hid (HE.out.below hC1)
  have HK := Lib.hid (HK.out.below hC1)
  have HB10 := Lib.hid (HB9.out.trans (hC1.mono HB9.out.size))
  have hcb : Calls Tryz.prog 70 #[.string (str bv)] x1 fun e w' => (∃ a : Addr, e = .returned (.tuple #[.pointer none, .iface 296 (.pointer (some a))])) ∧ Below x1.heap.size x1 w' := conv_bad (str bv) x1 HE.out (by rw [str_size]; assumption) (by rw [str_list]; exact HD2.out)
  have HCB2 := Lib.hid hcb
  clear hcb
  go_wp2_with fail
  (with_reducible refine (HCB2.out).mono ?_)
  rintro e x2 ⟨⟨aE2, rfl⟩, hC2⟩
  have c1 := cell_keep hC2 c1
  have c2 := cell_keep hC2 c2
  have k1 := cell_keep hC2 k1
  have k2 := cell_keep hC2 k2
  have HE := Lib.hid (HE.out.below hC2)
  have HK := Lib.hid (HK.out.below hC2)
  have HB11 := Lib.hid (HB10.out.trans (hC2.mono HB10.out.size))
  clear hI1 hbb1 hws1 hnr1 hval1
  clear hC1 hC2
  go_wp2_with fail
  go_ret2
  exact ⟨rfl, HB11.out⟩

set_option maxHeartbeats 8000000 in
set_option maxRecDepth 100000 in
theorem less_tf1 (g o : Nat) (a b : Tok) (r : Bool) (w : World) (hE : Env w) (hK : KwAt w) (hT : TokAt w g o a) (va : a.v.length ≤ 1000000) (vb : b.v.length ≤ 1000000) (hp : a.p = b.p) (hr : tless a b = some r) (hda : allDig a.v = true) (hnb : NoNum b.v) (hn : a.n = true) :
    Calls Tryz.prog 90 #[.pointer (some ⟨g, o, none⟩), tagg b] w fun e w' => e = .returned (.tuple #[.bool r, .nilIface]) ∧ Below w.heap.size w w' := by
  obtain ⟨c0, c1, c2⟩ := hT
  obtain ⟨ap, av, an⟩ := a
  obtain ⟨bp, bv, bn⟩ := b
  have hp : ap = bp := hp
  subst hp
  unfold sv at c0 c1
  unfold tagg sv
  have htl := str_toList
  have hbl := bytesLess_eq
  have m1 : (ap == ap) = true := by simp
  obtain ⟨wb, hwb⟩ : ∃ x, x = w.alloc (Obj.cells #[Value.string (str ap), Value.string (str bv), Value.bool bn] 84) := ⟨_, rfl⟩
  have hBb : Below w.heap.size w wb := by rw [hwb]; exact (Below.refl _ _).alloc (Nat.le_refl _) _
  have hAb : Arr wb w.heap.size 84 [sv ap, sv bv, .bool bn] := by rw [hwb]; exact Arr.new _ _ _
  have hdb := nonum_dig hnb
  have hn : an = true := hn
  have va : av.length ≤ 1000000 := va
  have vb : bv.length ≤ 1000000 := vb
  have hda : allDig av = true := hda
  have hdb : allDig bv = false := hdb
  have HD1 := Lib.hid hda
  have HD2 := Lib.hid (show NoNum bv from hnb)
  have HRK : Hid ((kw av = 7 ∧ kw bv = 7 → r = bless av bv) ∧ (¬ (kw av = 7 ∧ kw bv = 7) → r = decide (kw av < kw bv))) := Lib.hid (by
    unfold tless at hr
    simp only [if_true, hda, hdb, hn, Bool.false_eq_true, Bool.true_eq_false, false_and, and_false, if_false] at hr
    constructor
    · intro h; rw [if_pos h] at hr; injection hr with hr; exact hr.symm
    · intro h; rw [if_neg h] at hr; injection hr with hr; exact hr.symm)
  clear hr hda hdb hnb
  subst hn
  have HBb := Lib.hid hBb
  have HAb := Lib.hid hAb
  have HE := Lib.hid (hE.below hBb)
  have HK := Lib.hid (hK.below hBb)
  have c0 := cell_keep hBb c0
  have c1 := cell_keep hBb c1
  have c2 := cell_keep hBb c2
  have k0 : wb.cell? ⟨w.heap.size, 0, none⟩ = some (.string (str ap)) := hAb.cell (j := 0) rfl
  have k1 : wb.cell? ⟨w.heap.size, 1, none⟩ = some (.string (str bv)) := hAb.cell (j := 1) rfl
  have k2 : wb.cell? ⟨w.heap.size, 2, none⟩ = some (.bool bn) := hAb.cell (j := 2) rfl
  clear hE hK hBb hAb
  go_enter Tryz.func90, Tryz.ntmps90
  go_wp2_with fail
  rw [← hwb]
  clear hwb
  go_quiet (fail)
  obtain ⟨w9, hw9⟩ : ∃ x, x = wb.drewN nq := ⟨_, rfl⟩
  have hB9 : Below wb.heap.size wb w9 := by rw [hw9]; exact below_drewN' (Below.refl _ _) _
  have c1 := cell_keep hB9 c1
  have c2 := cell_keep hB9 c2
  have k1 := cell_keep hB9 k1
  have k2 := cell_keep hB9 k2
  have HE := Lib.hid (HE.out.below hB9)
  have HK := Lib.hid (HK.out.below hB9)
  have HB9 := Lib.hid (HBb.out.trans (hB9.mono HBb.out.size))
  rw [← hw9]
  clear hw9 hB9 c0 k0
  go_wp2_with fail
  (with_reducible refine (conv_digits (str av) w9 HE.out (by rw [str_size]; assumption) (by rw [str_list]; exact HD1.out)).mono ?_)
  rintro e x1 ⟨q1, ws1, base1, rfl, hI1, hbb1, hws1, hnr1, hval1, hC1⟩
  rw [str_list] at hval1
  have c1 := cell_keep hC1 c1
  have c2 := cell_keep hC1 c2
  have k1 := cell_keep hC1 k1
  have k2 := cell_keep hC1 k2
  have HE := Lib.hid (HE.out.below hC1)
  have HK := Lib.hid (HK.out.below hC1)
  have HB10 := Lib.hid (HB9.out.trans (hC1.mono HB9.out.size))
  have hcb : Calls Tryz.prog 70 #[.string (str bv)] x1 fun e w' => (∃ a : Addr, e = .returned (.tuple #[.pointer none, .iface 296 (.pointer (some a))])) ∧ Below x1.heap.size x1 w' := conv_bad (str bv) x1 HE.out (by rw [str_size]; assumption) (by rw [str_list]; exact HD2.out)
  have HCB2 := Lib.hid hcb
  clear hcb
  go_wp2_with fail
  (with_reducible refine (HCB2.out).mono ?_)
  rintro e x2 ⟨⟨aE2, rfl⟩, hC2⟩
  have c1 := cell_keep hC2 c1
  have c2 := cell_keep hC2 c2
  have k1 := cell_keep hC2 k1
  have k2 := cell_keep hC2 k2
  have HE := Lib.hid (HE.out.below hC2)
  have HK := Lib.hid (HK.out.below hC2)
  have HB11 := Lib.hid (HB10.out.trans (hC2.mono HB10.out.size))
  clear hI1 hbb1 hws1 hnr1 hval1
  clear hC1 hC2
  have hk1 := keyword104 av x2 HK.out
  have hk2 := keyword104 bv x2 HK.out
  obtain ⟨gK, oK, cK, hkc, _⟩ := HK.out
  have HKA := Lib.hid hk1
  have HKB := Lib.hid hk2
  clear hk1 hk2
  have hka := kw_le av
  have hkb := kw_le bv
  have b7 : ∀ x : Nat, ((x : Int) == 7) = decide (x = 7) := fun x => by by_cases h : x = 7 <;> simp [h]; omega
  by_cases ha7 : kw av = 7
  · have m7 : ((kw av : Nat) : Int) = 7 := by omega
    by_cases hb7 : kw bv = 7
    · have hrr : r = bless av bv := HRK.out.1 ⟨ha7, hb7⟩
      have e7 : ((kw av : Int) == 7) = true := by simp [ha7]
      have f7 : ((kw bv : Int) == 7) = true := by simp [hb7]
      have HRR := Lib.hid hrr
      clear hrr ha7 hb7 m7 b7
      go_wp2_with fail
      (with_reducible refine (HKA.out).mono ?_)
      rintro e z1 ⟨rfl, rfl⟩
      go_wp2_with fail
      (with_reducible refine (HKB.out).mono ?_)
      rintro e z1 ⟨rfl, rfl⟩
      go_wp2_with fail
      go_quiet (fail)
      go_wp2_with fail
      go_ret2
      exact ⟨by rw [HRR.out]; rfl, below_drewN' HB11.out _⟩
    · have hrr : r = decide (kw av < kw bv) := HRK.out.2 (fun h => hb7 h.2)
      have e7 : ((kw av : Int) == 7) = true := by simp [ha7]
      have f7 : ((kw bv : Int) == 7) = false := by simp; omega
      have HRR := Lib.hid hrr
      clear hrr ha7 hb7 m7 b7
      go_wp2_with fail
      (with_reducible refine (HKA.out).mono ?_)
      rintro e z1 ⟨rfl, rfl⟩
      go_wp2_with fail
      (with_reducible refine (HKB.out).mono ?_)
      rintro e z1 ⟨rfl, rfl⟩
      go_wp2_with fail
      go_ret2
      exact ⟨by rw [HRR.out]; simp, HB11.out⟩
  · have hrr : r = decide (kw av < kw bv) := HRK.out.2 (fun h => ha7 h.1)
    have e7 : ((kw av : Int) == 7) = false := by simp; omega
    have HRR := Lib.hid hrr
    clear hrr ha7 b7
    go_wp2_with fail
    (with_reducible refine (HKA.out).mono ?_)
    rintro e z1 ⟨rfl, rfl⟩
    go_wp2_with fail
    (with_reducible refine (HKB.out).mono ?_)
    rintro e z1 ⟨rfl, rfl⟩
    go_wp2_with fail
    go_ret2
    exact ⟨by rw [HRR.out]; simp, HB11.out⟩

set_option maxHeartbeats 8000000 in
set_option maxRecDepth 100000 in
theorem less_ft0 (g o : Nat) (a b : Tok) (r : Bool) (w : World) (hE : Env w) (hK : KwAt w) (hT : TokAt w g o a) (va : a.v.length ≤ 1000000) (vb : b.v.length ≤ 1000000) (hp : a.p = b.p) (hr : tless a b = some r) (hna : NoNum a.v) (hdb : allDig b.v = true) (hn : b.n = false) :
    Calls Tryz.prog 90 #[.pointer (some ⟨g, o, none⟩), tagg b] w fun e w' => e = .returned (.tuple #[.bool r, .nilIface]) ∧ Below w.heap.size w w' := by
  obtain ⟨c0, c1, c2⟩ := hT
  obtain ⟨ap, av, an⟩ := a
  obtain ⟨bp, bv, bn⟩ := b
  have hp : ap = bp := hp
  subst hp
  unfold sv at c0 c1
  unfold tagg sv
  have htl := str_toList
  have hbl := bytesLess_eq
  have m1 : (ap == ap) = true := by simp
  obtain ⟨wb, hwb⟩ : ∃ x, x = w.alloc (Obj.cells #[Value.string (str ap), Value.string (str bv), Value.bool bn] 84) := ⟨_, rfl⟩
  have hBb : Below w.heap.size w wb := by rw [hwb]; exact (Below.refl _ _).alloc (Nat.le_refl _) _
  have hAb : Arr wb w.heap.size 84 [sv ap, sv bv, .bool bn] := by rw [hwb]; exact Arr.new _ _ _
  have hda := nonum_dig hna
  have hn : bn = false := hn
  have va : av.length ≤ 1000000 := va
  have vb : bv.length ≤ 1000000 := vb
  have hda : allDig av = false := hda
  have hdb : allDig bv = true := hdb
  have HD1 := Lib.hid (show NoNum av from hna)
  have HD2 := Lib.hid hdb
  have hr0 : r = true := by
    unfold tless at hr
    simp only [if_true, hda, hdb, hn, Bool.false_eq_true, false_and, and_self, if_false] at hr
    injection hr with hr; exact hr.symm
  subst hr0
  clear hr hda hdb hna
  subst hn
  have HBb := Lib.hid hBb
  have HAb := Lib.hid hAb
  have HE := Lib.hid (hE.below hBb)
  have HK := Lib.hid (hK.below hBb)
  have c0 := cell_keep hBb c0
  have c1 := cell_keep hBb c1
  have c2 := cell_keep hBb c2
  have k0 : wb.cell? ⟨w.heap.size, 0, none⟩ = some (.string (str ap)) := hAb.cell (j := 0) rfl
  have k1 : wb.cell? ⟨w.heap.size, 1, none⟩ = some (.string (str bv)) := hAb.cell (j := 1) rfl
  have k2 : wb.cell? ⟨w.heap.size, 2, none⟩ = some (.bool false) := hAb.cell (j := 2) rfl
  clear hE hK hBb hAb
  go_enter Tryz.func90, Tryz.ntmps90
  go_wp2_with fail
  rw [← hwb]
  clear hwb
  go_quiet (fail)
  obtain ⟨w9, hw9⟩ : ∃ x, x = wb.drewN nq := ⟨_, rfl⟩
  have hB9 : Below wb.heap.size wb w9 := by rw [hw9]; exact below_drewN' (Below.refl _ _) _
  have c1 := cell_keep hB9 c1
  have c2 := cell_keep hB9 c2
  have k1 := cell_keep hB9 k1
  have k2 := cell_keep hB9 k2
  have HE := Lib.hid (HE.out.below hB9)
  have HK := Lib.hid (HK.out.below hB9)
  have HB9 := Lib.hid (HBb.out.trans (hB9.mono HBb.out.size))
  rw [← hw9]
  clear hw9 hB9 c0 k0
  have hcb : Calls Tryz.prog 70 #[.string (str av)] w9 fun e w' => (∃ a : Addr, e = .returned (.tuple #[.pointer none, .iface 296 (.pointer (some a))])) ∧ Below w9.heap.size w9 w' := conv_bad (str av) w9 HE.out (by rw [str_size]; assumption) (by rw [str_list]; exact HD1.out)
  have HCB1 := Lib.hid hcb
  clear hcb
  go_wp2_with fail
  (with_reducible refine (HCB1.out).mono ?_)
  rintro e x1 ⟨⟨aE1, rfl⟩, hC1⟩
  have c1 := cell_keep hC1 c1
  have c2 := cell_keep hC1 c2
  have k1 := cell_keep hC1 k1
  have k2 := cell_keep hC1 k2
  have HE := Lib.hid (HE.out.below hC1)
  have HK := Lib.hid (HK.out.below hC1)
  have HB10 := Lib.hid (HB9.out.trans (hC1.mono HB9.out.size))
  go_wp2_with fail
  (with_reducible refine (conv_digits (str bv) x1 HE.out (by rw [str_size]; assumption) (by rw [str_list]; exact HD2.out)).mono ?_)
  rintro e x2 ⟨q2, ws2, base2, rfl, hI2, hbb2, hws2, hnr2, hval2, hC2⟩
  rw [str_list] at hval2
  have c1 := cell_keep hC2 c1
  have c2 := cell_keep hC2 c2
  have k1 := cell_keep hC2 k1
  have k2 := cell_keep hC2 k2
  have HE := Lib.hid (HE.out.below hC2)
  have HK := Lib.hid (HK.out.below hC2)
  have HB11 := Lib.hid (HB10.out.trans (hC2.mono HB10.out.size))
  clear hI2 hbb2 hws2 hnr2 hval2
  clear hC1 hC2
  go_wp2_with fail
  go_ret2
  exact ⟨rfl, HB11.out⟩

set_option maxHeartbeats 8000000 in
set_option maxRecDepth 100000 in
theorem less_ft1 (g o : Nat) (a b : Tok) (r : Bool) (w : World) (hE : Env w) (hK : KwAt w) (hT : TokAt w g o a) (va : a.v.length ≤ 1000000) (vb : b.v.length ≤ 1000000) (hp : a.p = b.p) (hr : tless a b = some r) (hna : NoNum a.v) (hdb : allDig b.v = true) (hn : b.n = true) :
    Calls Tryz.prog 90 #[.pointer (some ⟨g, o, none⟩), tagg b] w fun e w' => e = .returned (.tuple #[.bool r, .nilIface]) ∧ Below w.heap.size w w' := by
  obtain ⟨c0, c1, c2⟩ := hT
  obtain ⟨ap, av, an⟩ := a
  obtain ⟨bp, bv, bn⟩ := b
  have hp : ap = bp := hp
  subst hp
  unfold sv at c0 c1
  unfold tagg sv
  have htl := str_toList
  have hbl := bytesLess_eq
  have m1 : (ap == ap) = true := by simp
  obtain ⟨wb, hwb⟩ : ∃ x, x = w.alloc (Obj.cells #[Value.string (str ap), Value.string (str bv), Value.bool bn] 84) := ⟨_, rfl⟩
  have hBb : Below w.heap.size w wb := by rw [hwb]; exact (Below.refl _ _).alloc (Nat.le_refl _) _
  have hAb : Arr wb w.heap.size 84 [sv ap, sv bv, .bool bn] := by rw [hwb]; exact Arr.new _ _ _
  have hda := nonum_dig hna
  have hn : bn = true := hn
  have va : av.length ≤ 1000000 := va
  have vb : bv.length ≤ 1000000 := vb
  have hda : allDig av = false := hda
  have hdb : allDig bv = true := hdb
  have HD1 := Lib.hid (show NoNum av from hna)
  have HD2 := Lib.hid hdb
  have HRK : Hid ((kw av = 7 ∧ kw bv = 7 → r = bless av bv) ∧ (¬ (kw av = 7 ∧ kw bv = 7) → r = decide (kw av < kw bv))) := Lib.hid (by
    unfold tless at hr
    simp only [if_true, hda, hdb, hn, Bool.false_eq_true, Bool.true_eq_false, false_and, and_false, and_true, if_false] at hr
    constructor
    · intro h; rw [if_pos h] at hr; injection hr with hr; exact hr.symm
    · intro h; rw [if_neg h] at hr; injection hr with hr; exact hr.symm)
  clear hr hda hdb hna
  subst hn
  have HBb := Lib.hid hBb
  have HAb := Lib.hid hAb
  have HE := Lib.hid (hE.below hBb)
  have HK := Lib.hid (hK.below hBb)
  have c0 := cell_keep hBb c0
  have c1 := cell_keep hBb c1
  have c2 := cell_keep hBb c2
  have k0 : wb.cell? ⟨w.heap.size, 0, none⟩ = some (.string (str ap)) := hAb.cell (j := 0) rfl
  have k1 : wb.cell? ⟨w.heap.size, 1, none⟩ = some (.string (str bv)) := hAb.cell (j := 1) rfl
  have k2 : wb.cell? ⟨w.heap.size, 2, none⟩ = some (.bool true) := hAb.cell (j := 2) rfl
  clear hE hK hBb hAb
  go_enter Tryz.func90, Tryz.ntmps90
  go_wp2_with fail
  rw [← hwb]
  clear hwb
  go_quiet (fail)
  obtain ⟨w9, hw9⟩ : ∃ x, x = wb.drewN nq := ⟨_, rfl⟩
  have hB9 : Below wb.heap.size wb w9 := by rw [hw9]; exact below_drewN' (Below.refl _ _) _
  have c1 := cell_keep hB9 c1
  have c2 := cell_keep hB9 c2
  have k1 := cell_keep hB9 k1
  have k2 := cell_keep hB9 k2
  have HE := Lib.hid (HE.out.below hB9)
  have HK := Lib.hid (HK.out.below hB9)
  have HB9 := Lib.hid (HBb.out.trans (hB9.mono HBb.out.size))
  rw [← hw9]
  clear hw9 hB9 c0 k0
  have hcb : Calls Tryz.prog 70 #[.string (str av)] w9 fun e w' => (∃ a : Addr, e = .returned (.tuple #[.pointer none, .iface 296 (.pointer (some a))])) ∧ Below w9.heap.size w9 w' := conv_bad (str av) w9 HE.out (by rw [str_size]; assumption) (by rw [str_list]; exact HD1.out)
  have HCB1 := Lib.hid hcb
  clear hcb
  go_wp2_with fail
  (with_reducible refine (HCB1.out).mono ?_)
  rintro e x1 ⟨⟨aE1, rfl⟩, hC1⟩
  have c1 := cell_keep hC1 c1
  have c2 := cell_keep hC1 c2
  have k1 := cell_keep hC1 k1
  have k2 := cell_keep hC1 k2
  have HE := Lib.hid (HE.out.below hC1)
  have HK := Lib.hid (HK.out.below hC1)
  have HB10 := Lib.hid (HB9.out.trans (hC1.mono HB9.out.size))
  go_wp2_with fail
  (with_reducible refine (conv_digits (str bv) x1 HE.out (by rw [str_size]; assumption) (by rw [str_list]; exact HD2.out)).mono ?_)
  rintro e x2 ⟨q2, ws2, base2, rfl, hI2, hbb2, hws2, hnr2, hval2, hC2⟩
  rw [str_list] at hval2
  have c1 := cell_keep hC2 c1
  have c2 := cell_keep hC2 c2
  have k1 := cell_keep hC2 k1
  have k2 := cell_keep hC2 k2
  have HE := Lib.hid (HE.out.below hC2)
  have HK := Lib.hid (HK.out.below hC2)
  have HB11 := Lib.hid (HB10.out.trans (hC2.mono HB10.out.size))
  clear hI2 hbb2 hws2 hnr2 hval2
  clear hC1 hC2
  have hk1 := keyword104 av x2 HK.out
  have hk2 := keyword104 bv x2 HK.out
  obtain ⟨gK, oK, cK, hkc, _⟩ := HK.out
  have HKA := Lib.hid hk1
  have HKB := Lib.hid hk2
  clear hk1 hk2
  have hka := kw_le av
  have hkb := kw_le bv
  have b7 : ∀ x : Nat, ((x : Int) == 7) = decide (x = 7) := fun x => by by_cases h : x = 7 <;> simp [h]; omega
  by_cases ha7 : kw av = 7
  · have m7 : ((kw av : Nat) : Int) = 7 := by omega
    by_cases hb7 : kw bv = 7
    · have hrr : r = bless av bv := HRK.out.1 ⟨ha7, hb7⟩
      have e7 : ((kw av : Int) == 7) = true := by simp [ha7]
      have f7 : ((kw bv : Int) == 7) = true := by simp [hb7]
      have HRR := Lib.hid hrr
      clear hrr ha7 hb7 m7 b7
      go_wp2_with fail
      (with_reducible refine (HKA.out).mono ?_)
      rintro e z1 ⟨rfl, rfl⟩
      go_wp2_with fail
      (with_reducible refine (HKB.out).mono ?_)
      rintro e z1 ⟨rfl, rfl⟩
      go_wp2_with fail
      go_quiet (fail)
      go_wp2_with fail
      go_ret2
      exact ⟨by rw [HRR.out]; rfl, below_drewN' HB11.out _⟩
    · have hrr : r = decide (kw av < kw bv) := HRK.out.2 (fun h => hb7 h.2)
      have e7 : ((kw av : Int) == 7) = true := by simp [ha7]
      have f7 : ((kw bv : Int) == 7) = false := by simp; omega
      have HRR := Lib.hid hrr
      clear hrr ha7 hb7 m7 b7
      go_wp2_with fail
      (with_reducible refine (HKA.out).mono ?_)
      rintro e z1 ⟨rfl, rfl⟩
      go_wp2_with fail
      (with_reducible refine (HKB.out).mono ?_)
      rintro e z1 ⟨rfl, rfl⟩
      go_wp2_with fail
      go_ret2
      exact ⟨by rw [HRR.out]; simp, HB11.out⟩
  · have hrr : r = decide (kw av < kw bv) := HRK.out.2 (fun h => ha7 h.1)
    have e7 : ((kw av : Int) == 7) = false := by simp; omega
    have HRR := Lib.hid hrr
    clear hrr ha7 b7
    go_wp2_with fail
    (with_reducible refine (HKA.out).mono ?_)
    rintro e z1 ⟨rfl, rfl⟩
    go_wp2_with fail
    (with_reducible refine (HKB.out).mono ?_)
    rintro e z1 ⟨rfl, rfl⟩
    go_wp2_with fail
    go_ret2
    exact ⟨by rw [HRR.out]; simp, HB11.out⟩

set_option maxHeartbeats 8000000 in
set_option maxRecDepth 100000 in
theorem less_ff (g o : Nat) (a b : Tok) (r : Bool) (w : World) (hE : Env w) (hK : KwAt w) (hT : TokAt w g o a) (va : a.v.length ≤ 1000000) (vb : b.v.length ≤ 1000000) (hp : a.p = b.p) (hr : tless a b = some r) (hna : NoNum a.v) (hnb : NoNum b.v) :
    Calls Tryz.prog 90 #[.pointer (some ⟨g, o, none⟩), tagg b] w fun e w' => e = .returned (.tuple #[.bool r, .nilIface]) ∧ Below w.heap.size w w' := by
  obtain ⟨c0, c1, c2⟩ := hT
  obtain ⟨ap, av, an⟩ := a
  obtain ⟨bp, bv, bn⟩ := b
  have hp : ap = bp := hp
  subst hp
  unfold sv at c0 c1
  unfold tagg sv
  have htl := str_toList
  have hbl := bytesLess_eq
  have m1 : (ap == ap) = true := by simp
  obtain ⟨wb, hwb⟩ : ∃ x, x = w.alloc (Obj.cells #[Value.string (str ap), Value.string (str bv), Value.bool bn] 84) := ⟨_, rfl⟩
  have hBb : Below w.heap.size w wb := by rw [hwb]; exact (Below.refl _ _).alloc (Nat.le_refl _) _
  have hAb : Arr wb w.heap.size 84 [sv ap, sv bv, .bool bn] := by rw [hwb]; exact Arr.new _ _ _
  have hda := nonum_dig hna
  have hdb := nonum_dig hnb
  have va : av.length ≤ 1000000 := va
  have vb : bv.length ≤ 1000000 := vb
  have hda : allDig av = false := hda
  have hdb : allDig bv = false := hdb
  have HD1 := Lib.hid (show NoNum av from hna)
  have HD2 := Lib.hid (show NoNum bv from hnb)
  have HRK : Hid ((kw av = 7 ∧ kw bv = 7 → r = bless av bv) ∧ (¬ (kw av = 7 ∧ kw bv = 7) → r = decide (kw av < kw bv))) := Lib.hid (by
    unfold tless at hr
    simp only [if_true, hda, hdb, Bool.false_eq_true, false_and, and_false, if_false] at hr
    constructor
    · intro h; rw [if_pos h] at hr; injection hr with hr; exact hr.symm
    · intro h; rw [if_neg h] at hr; injection hr with hr; exact hr.symm)
  clear hr hda hdb hna hnb
  have HBb := Lib.hid hBb
  have HAb := Lib.hid hAb
  have HE := Lib.hid (hE.below hBb)
  have HK := Lib.hid (hK.below hBb)
  have c0 := cell_keep hBb c0
  have c1 := cell_keep hBb c1
  have c2 := cell_keep hBb c2
  have k0 : wb.cell? ⟨w.heap.size, 0, none⟩ = some (.string (str ap)) := hAb.cell (j := 0) rfl
  have k1 : wb.cell? ⟨w.heap.size, 1, none⟩ = some (.string (str bv)) := hAb.cell (j := 1) rfl
  have k2 : wb.cell? ⟨w.heap.size, 2, none⟩ = some (.bool bn) := hAb.cell (j := 2) rfl
  clear hE hK hBb hAb
  go_enter Tryz.func90, Tryz.ntmps90
  go_wp2_with fail
  rw [← hwb]
  clear hwb
  go_quiet (fail)
  obtain ⟨w9, hw9⟩ : ∃ x, x = wb.drewN nq := ⟨_, rfl⟩
  have hB9 : Below wb.heap.size wb w9 := by rw [hw9]; exact below_drewN' (Below.refl _ _) _
  have c1 := cell_keep hB9 c1
  have c2 := cell_keep hB9 c2
  have k1 := cell_keep hB9 k1
  have k2 := cell_keep hB9 k2
  have HE := Lib.hid (HE.out.below hB9)
  have HK := Lib.hid (HK.out.below hB9)
  have HB9 := Lib.hid (HBb.out.trans (hB9.mono HBb.out.size))
  rw [← hw9]
  clear hw9 hB9 c0 k0
  have hcb : Calls Tryz.prog 70 #[.string (str av)] w9 fun e w' => (∃ a : Addr, e = .returned (.tuple #[.pointer none, .iface 296 (.pointer (some a))])) ∧ Below w9.heap.size w9 w' := conv_bad (str av) w9 HE.out (by rw [str_size]; assumption) (by rw [str_list]; exact HD1.out)
  have HCB1 := Lib.hid hcb
  clear hcb
  go_wp2_with fail
  (with_reducible refine (HCB1.out).mono ?_)
  rintro e x1 ⟨⟨aE1, rfl⟩, hC1⟩
  have c1 := cell_keep hC1 c1
  have c2 := cell_keep hC1 c2
  have k1 := cell_keep hC1 k1
  have k2 := cell_keep hC1 k2
  have HE := Lib.hid (HE.out.below hC1)
  have HK := Lib.hid (HK.out.below hC1)
  have HB10 := Lib.hid (HB9.out.trans (hC1.mono HB9.out.size))
  have hcb : Calls Tryz.prog 70 #[.string (str bv)] x1 fun e w' => (∃ a : Addr, e = .returned (.tuple #[.pointer none, .iface 296 (.pointer (some a))])) ∧ Below x1.heap.size x1 w' := conv_bad (str bv) x1 HE.out (by rw [str_size]; assumption) (by rw [str_list]; exact HD2.out)
  have HCB2 := Lib.hid hcb
  clear hcb
  go_wp2_with fail
  (with_reducible refine (HCB2.out).mono ?_)
  rintro e x2 ⟨⟨aE2, rfl⟩, hC2⟩
  have c1 := cell_keep hC2 c1
  have c2 := cell_keep hC2 c2
  have k1 := cell_keep hC2 k1
  have k2 := cell_keep hC2 k2
  have HE := Lib.hid (HE.out.below hC2)
  have HK := Lib.hid (HK.out.below hC2)
  have HB11 := Lib.hid (HB10.out.trans (hC2.mono HB10.out.size))
  clear hC1 hC2
  have hk1 := keyword104 av x2 HK.out
  have hk2 := keyword104 bv x2 HK.out
  obtain ⟨gK, oK, cK, hkc, _⟩ := HK.out
  have HKA := Lib.hid hk1
  have HKB := Lib.hid hk2
  clear hk1 hk2
  have hka := kw_le av
  have hkb := kw_le bv
  have b7 : ∀ x : Nat, ((x : Int) == 7) = decide (x = 7) := fun x => by by_cases h : x = 7 <;> simp [h]; omega
  by_cases ha7 : kw av = 7
  · have m7 : ((kw av : Nat) : Int) = 7 := by omega
    by_cases hb7 : kw bv = 7
    · have hrr : r = bless av bv := HRK.out.1 ⟨ha7, hb7⟩
      have e7 : ((kw av : Int) == 7) = true := by simp [ha7]
      have f7 : ((kw bv : Int) == 7) = true := by simp [hb7]
      have HRR := Lib.hid hrr
      clear hrr ha7 hb7 m7 b7
      go_wp2_with fail
      (with_reducible refine (HKA.out).mono ?_)
      rintro e z1 ⟨rfl, rfl⟩
      go_wp2_with fail
      (with_reducible refine (HKB.out).mono ?_)
      rintro e z1 ⟨rfl, rfl⟩
      go_wp2_with fail
      go_quiet (fail)
      go_wp2_with fail
      go_ret2
      exact ⟨by rw [HRR.out]; rfl, below_drewN' HB11.out _⟩
    · have hrr : r = decide (kw av < kw bv) := HRK.out.2 (fun h => hb7 h.2)
      have e7 : ((kw av : Int) == 7) = true := by simp [ha7]
      have f7 : ((kw bv : Int) == 7) = false := by simp; omega
      have HRR := Lib.hid hrr
      clear hrr ha7 hb7 m7 b7
      go_wp2_with fail
      (with_reducible refine (HKA.out).mono ?_)
      rintro e z1 ⟨rfl, rfl⟩
      go_wp2_with fail
      (with_reducible refine (HKB.out).mono ?_)
      rintro e z1 ⟨rfl, rfl⟩
      go_wp2_with fail
      go_ret2
      exact ⟨by rw [HRR.out]; simp, HB11.out⟩
  · have hrr : r = decide (kw av < kw bv) := HRK.out.2 (fun h => ha7 h.1)
    have e7 : ((kw av : Int) == 7) = false := by simp; omega
    have HRR := Lib.hid hrr
    clear hrr ha7 b7
    go_wp2_with fail
    (with_reducible refine (HKA.out).mono ?_)
    rintro e z1 ⟨rfl, rfl⟩
    go_wp2_with fail
    (with_reducible refine (HKB.out).mono ?_)
    rintro e z1 ⟨rfl, rfl⟩
    go_wp2_with fail
    go_ret2
    exact ⟨by rw [HRR.out]; simp, HB11.out⟩

end Go.Proofs.Tz
