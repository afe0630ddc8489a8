/- B1 B2 in one text. -/
import Derived.Test.YtcehboopgjpfcaaGreatDoorAA
import Derived.Test.YtcehboopgjpfcaaGreatDoorProg
import Derived.WalkLawsBesides
import Derived.Laws.FloatArith
import Derived.Lib.Hide
import Derived.Outline
import Derived.Test.YtcehboopgjpfcaaGreatDoorS1
import Derived.Laws.Bits64b
import Derived.Lib.ItoaNum
/- Contract of math.Log2 at 10. -/
namespace Go.Proofs.Tz
open Go.RowKit Mv

set_option maxHeartbeats 1000000 in
theorem abs_gen (x : Nat) (y : Int) (h1 : ∀ w : World, (callFunc 209 #[.float .f64 x]).run Tryz.prog w = .ok (.value (.int .u64 y)) w)
    (h2 : ∀ w : World, (callFunc 210 #[.int .u64 (bits BinOp.andNot IntKind.u64 y 9223372036854775808)]).run Tryz.prog w = .ok (.value (.float .f64 x)) w) (w : World) :
    Calls Tryz.prog 240 #[.float .f64 x] w fun e w' => e = .returned (.float .f64 x) ∧ w = w' := by
  go_enter Tryz.func240, Tryz.ntmps240
  go_wp2
  go_ret
  exact ⟨rfl, rfl⟩

section
variable (x y : Nat)
/-- x is a positive finite number that is not small; y: its fraction, between a half and one; k: its exponent. -/
structure Fr (bx b1 : Int) (k : Int) : Prop where
  abs : ∀ w : World, Calls Tryz.prog 240 #[.float .f64 x] w fun e w' => e = .returned (.float .f64 x) ∧ w = w'
  zero : (FloatKind.f64.format.order x 0 == some .eq) = false
  inf : (FloatKind.f64.format.order x 9218868437227405311 == some .gt) = false
  nan : (FloatKind.f64.format.order x x != some .eq) = false
  norm : (FloatKind.f64.format.order x 4503599627370496 == some .lt) = false
  bitsOf : ∀ w : World, (callFunc 209 #[.float .f64 x]).run Tryz.prog w = .ok (.value (.int .u64 bx)) w
  exp : wrap64 (wrap64 (wrap64 (wrap64 (bits BinOp.and IntKind.u64 (bx / 4503599627370496) 2047) - 1023) + 1)) = k
  back : ∀ w : World, (callFunc 210 #[.int .u64 b1]).run Tryz.prog w = .ok (.value (.float .f64 y)) w
  fit : bits BinOp.or IntKind.u64 (bits BinOp.andNot IntKind.u64 bx 9218868437227405312) 4602678819172646912 = b1
end

set_option maxHeartbeats 1000000 in
theorem norm_gen {x y : Nat} {bx b1 k : Int} (h : Fr x y bx b1 k) (w : World) :
    Calls Tryz.prog 208 #[.float .f64 x] w fun e w' => e = .returned (.tuple #[.float .f64 x, .int .i64 0]) ∧ w = w' := by
  have hn := h.norm
  have H := Lib.hid h
  clear h
  go_enter Tryz.func208, Tryz.ntmps208
  go_wp2_with (go_at_call 240; refine (H.out.abs _).mono ?_; rintro e w' ⟨rfl, rfl⟩)
  go_ret2
  exact ⟨rfl, rfl⟩

set_option maxHeartbeats 1000000 in
theorem inf_gen {x y : Nat} {bx b1 k : Int} (h : Fr x y bx b1 k) (w : World) :
    Calls Tryz.prog 206 #[.float .f64 x, .int .i64 0] w fun e w' => e = .returned (.bool false) ∧ w = w' := by
  have hn := h.inf
  have H := Lib.hid h
  clear h
  go_enter Tryz.func206, Tryz.ntmps206
  go_wp2_with (go_at_call 240; refine (H.out.abs _).mono ?_; rintro e w' ⟨rfl, rfl⟩)
  go_ret
  exact ⟨rfl, rfl⟩

set_option maxHeartbeats 1000000 in
theorem nan_gen {x y : Nat} {bx b1 k : Int} (h : Fr x y bx b1 k) (w : World) :
    Calls Tryz.prog 207 #[.float .f64 x] w fun e w' => e = .returned (.bool false) ∧ w = w' := by
  have hn := h.nan
  have H := Lib.hid h
  clear h
  go_enter Tryz.func207, Tryz.ntmps207
  go_wp2
  go_ret
  exact ⟨rfl, rfl⟩

set_option maxHeartbeats 1000000 in
theorem frexp_gen {x y : Nat} {bx b1 k : Int} (h : Fr x y bx b1 k) (w : World) :
    Calls Tryz.prog 179 #[.float .f64 x] w fun e w' => e = .returned (.tuple #[.float .f64 y, .int .i64 k]) ∧ w = w' := by
  have h0 := h.zero
  have hb := h.bitsOf
  have hk := h.back
  have hf := h.fit
  have H := Lib.hid h
  clear h
  go_enter Tryz.func179, Tryz.ntmps179
  go_wp2_with (first | (go_at_call 206; refine (inf_gen H.out _).mono ?_; rintro e w' ⟨rfl, rfl⟩) | (go_at_call 207; refine (nan_gen H.out _).mono ?_; rintro e w' ⟨rfl, rfl⟩) | (go_at_call 208; refine (norm_gen H.out _).mono ?_; rintro e w' ⟨rfl, rfl⟩))
  go_ret2
  exact ⟨by rw [H.out.exp]; rfl, rfl⟩

set_option maxHeartbeats 1000000 in
theorem frexp2_gen {x y : Nat} {bx b1 k : Int} (h : Fr x y bx b1 k) (w : World) :
    Calls Tryz.prog 163 #[.float .f64 x] w fun e w' => e = .returned (.tuple #[.float .f64 y, .int .i64 k]) ∧ w = w' := by
  have H := Lib.hid h
  clear h
  go_enter Tryz.func163, Tryz.ntmps163
  go_wp2_with (go_at_call 179; refine (frexp_gen H.out _).mono ?_; rintro e w' ⟨rfl, rfl⟩)
  go_ret2
  exact ⟨rfl, rfl⟩

set_option maxHeartbeats 1000000 in
theorem log_gen {y z : Nat} (h : ∀ w : World, (callFunc 180 #[.float .f64 y]).run Tryz.prog w = .ok (.value (.float .f64 z)) w) (w : World) :
    Calls Tryz.prog 164 #[.float .f64 y] w fun e w' => e = .returned (.float .f64 z) ∧ w = w' := by
  go_enter Tryz.func164, Tryz.ntmps164
  go_wp2
  go_ret
  exact ⟨rfl, rfl⟩

set_option maxHeartbeats 1000000 in
theorem log2_gen {x y z m f r : Nat} {bx b1 k : Int} (h : Fr x y bx b1 k) (hl : ∀ w : World, (callFunc 180 #[.float .f64 y]).run Tryz.prog w = .ok (.value (.float .f64 z)) w)
    (hh : (FloatKind.f64.format.order y 4602678819172646912 == some .eq) = false)
    (hm : ∀ w : World, (binOp .mul 158 (.float .f64 z) (.float .f64 4609176140021203710)).run Tryz.prog w = .ok (.float .f64 m) w)
    (hf : ∀ w : World, (convert 3 158 (.int .i64 k)).run Tryz.prog w = .ok (.float .f64 f) w)
    (ha : ∀ w : World, (binOp .add 158 (.float .f64 m) (.float .f64 f)).run Tryz.prog w = .ok (.float .f64 r) w) (w : World) :
    Calls Tryz.prog 142 #[.float .f64 x] w fun e w' => e = .returned (.float .f64 r) ∧ w = w' := by
  have H := Lib.hid h
  have HL := Lib.hid hl
  clear h hl
  go_enter Tryz.func142, Tryz.ntmps142
  go_wp2_with (first | (go_at_call 163; refine (frexp2_gen H.out _).mono ?_; rintro e w' ⟨rfl, rfl⟩) | (go_at_call 164; refine (log_gen HL.out _).mono ?_; rintro e w' ⟨rfl, rfl⟩))
  go_ret
  exact ⟨rfl, rfl⟩

set_option maxHeartbeats 1000000 in
theorem log22_gen {x r : Nat} (h : ∀ w : World, Calls Tryz.prog 142 #[.float .f64 x] w fun e w' => e = .returned (.float .f64 r) ∧ w = w') (w : World) :
    Calls Tryz.prog 115 #[.float .f64 x] w fun e w' => e = .returned (.float .f64 r) ∧ w = w' := by
  have H := Lib.hid h
  clear h
  go_enter Tryz.func115, Tryz.ntmps115
  go_wp2_with (go_at_call 142; refine (H.out _).mono ?_; rintro e w' ⟨rfl, rfl⟩)
  go_ret
  exact ⟨rfl, rfl⟩

def bTen : Nat := 4621819117588971520
def bFrac : Nat := 4603804719079489536
def bLog2 : Nat := 4614662735865160561

theorem fr_ten : Fr 4621819117588971520 4603804719079489536 4621819117588971520 4603804719079489536 4 where
  abs := abs_gen _ 4621819117588971520 (fun _ => by kernel_rfl) (fun _ => by kernel_rfl)
  zero := by kernel_rfl
  inf := by kernel_rfl
  nan := by kernel_rfl
  norm := by kernel_rfl
  bitsOf := fun _ => by kernel_rfl
  exp := by kernel_rfl
  back := fun _ => by kernel_rfl
  fit := by kernel_rfl

theorem log2_ten (w : World) : Calls Tryz.prog 115 #[.float .f64 4621819117588971520] w fun e w' => e = .returned (.float .f64 4614662735865160561) ∧ w = w' :=
  log22_gen (log2_gen (z := 13825510489450817230) (m := 13827654785158443579) (f := 4616189618054758400) fr_ten (fun _ => by kernel_rfl) (by kernel_rfl) (fun _ => by kernel_rfl) (fun _ => by kernel_rfl) (fun _ => by kernel_rfl)) w
#print axioms log2_ten
end Go.Proofs.Tz

/- Contract of nat.bitLen. -/
namespace Go.Proofs.Tz
open Go.RowKit Mv

theorem blen_bounds {x : Nat} (h0 : x ≠ 0) (hx : x < WB) : 1 ≤ Lib.bitLen x ∧ Lib.bitLen x ≤ 64 ∧ 2 ^ (Lib.bitLen x - 1) ≤ x ∧ x < 2 ^ Lib.bitLen x := by
  have h := Lib.bitLenAux_bounds 64 x (by unfold WB at hx; omega) h0
  exact ⟨h.1, Lib.bitLen_le x 64 (by omega) (by unfold WB at hx; omega), h.2⟩
theorem blen_eq {x L : Nat} (h0 : x ≠ 0) (hx : x < WB) (h1 : 2 ^ (L - 1) ≤ x) (h2 : x < 2 ^ L) : Lib.bitLen x = L := by
  obtain ⟨b1, _, b3, b4⟩ := blen_bounds h0 hx
  have a1 : Lib.bitLen x - 1 < L := (Nat.pow_lt_pow_iff_right (by omega : 1 < 2)).1 (Nat.lt_of_le_of_lt b3 h2)
  have a2 : L - 1 < Lib.bitLen x := (Nat.pow_lt_pow_iff_right (by omega : 1 < 2)).1 (Nat.lt_of_le_of_lt h1 b4)
  omega

theorem smear {t L : Nat} (s : Nat) (ht : t < WB) (hL : t < 2 ^ L) (hL64 : L ≤ 64) : ∃ t' : Nat, bits BinOp.or IntKind.u64 (t : Int) ((t / s : Nat) : Int) = (t' : Int) ∧ t ≤ t' ∧ t' < 2 ^ L ∧ t' < WB := by
  have hle : t / s ≤ t := Nat.div_le_self _ _
  have hor : t ||| (t / s) < 2 ^ L := Nat.or_lt_two_pow hL (by omega)
  refine ⟨t ||| (t / s), bits_or_u64_nat t (t / s) (by unfold WB at ht; omega) (by unfold WB at ht; omega), Nat.left_le_or, hor, ?_⟩
  have : 2 ^ L ≤ 2 ^ 64 := Nat.pow_le_pow_right (by omega) hL64
  unfold WB; omega

set_option maxHeartbeats 1000000 in
theorem bitLen_any (b off n cap : Nat) (t : Nat) (w : World) (h0 : t ≠ 0) (ht : t < WB) (hc : w.cell? ⟨b, off + n, none⟩ = some (.int .u64 (t : Int))) (hn : n ≤ 1000000) (_hcap : n < cap) :
    Calls Tryz.prog 114 #[.slice (some ⟨b, off, none⟩) (n + 1) cap] w fun e w' => e = .returned (.int .i64 ((64 * n + Lib.bitLen t : Nat) : Int)) ∧ w = w' := by
  obtain ⟨L, hL⟩ : ∃ L, L = Lib.bitLen t := ⟨_, rfl⟩
  obtain ⟨g1, g2, g3, g4⟩ := blen_bounds h0 ht
  rw [← hL] at g1 g2 g3 g4 ⊢
  obtain ⟨t1, e1, l1, u1, w1⟩ := smear 2 ht g4 g2
  obtain ⟨t2, e2, l2, u2, w2⟩ := smear 4 w1 u1 g2
  obtain ⟨t3, e3, l3, u3, w3⟩ := smear 16 w2 u2 g2
  obtain ⟨t4, e4, l4, u4, w4⟩ := smear 256 w3 u3 g2
  obtain ⟨t5, e5, l5, u5, w5⟩ := smear 65536 w4 u4 g2
  obtain ⟨t6, e6, l6, u6, w6⟩ := smear (65536 * 65536) w5 u5 g2
  rw [← Nat.div_div_eq_div_mul] at e6
  simp only [Int.natCast_ediv, Int.cast_ofNat_Int] at e1 e2 e3 e4 e5 e6
  have hlen : Lib.bitLen t6 = L := blen_eq (by omega) w6 (by omega) u6
  have hcall := fun w => (Tryz.bits_Len (t6 : Int) w (by omega) (by unfold WB at w6; omega))
  simp only [Int.toNat_natCast, hlen] at hcall
  have HC := Lib.hid hcall
  clear hcall hlen hL h0 ht g3 g4 l1 l2 l3 l4 l5 l6 u1 u2 u3 u4 u5 u6 w1 w2 w3 w4 w5 w6
  go_enter Tryz.func114, Tryz.ntmps114
  go_wp2_with fail
  (with_reducible refine (HC.out _).mono ?_)
  rintro e w' ⟨rfl, rfl⟩
  go_wp2_with fail
  go_ret
  exact ⟨ret_one (by omega), rfl⟩
end Go.Proofs.Tz
