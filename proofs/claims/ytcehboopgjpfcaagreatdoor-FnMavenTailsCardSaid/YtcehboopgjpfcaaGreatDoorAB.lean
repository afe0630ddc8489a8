/- A5 A6 A7 A8 in one text. -/
import Derived.Test.YtcehboopgjpfcaaGreatDoorAA
import Derived.BigQuiet
import Derived.Deep.QuietTactic
import Derived.WalkSpells
/- Contracts of strings.Reader's ReadByte and UnreadByte, of NewReader and of scanSign. -/
namespace Go.Proofs.Tz
open Go.RowKit Mv

/-- The reader at block p: its text, its place. -/
def Rdr (w : World) (p : Nat) (s : ByteArray) (i : Nat) : Prop := Arr w p 157 [.string s, .int .i64 (i : Int), .int .i64 (-1)]

theorem grownBy_set' {a w : World} {b : Nat} (h : a.grownBy w (some b)) (j : Nat) (v : Value) : a.grownBy (w.setCell ⟨b, j, none⟩ v) (some b) := grown_trans h (grownBy_set w b j v)
theorem grownBy_drew' {a w : World} {row : Option Nat} (h : a.grownBy w row) : a.grownBy w.drew row := grown_trans h (grownBy_drew w row)
theorem grownBy_drewN' {a w : World} {row : Option Nat} (h : a.grownBy w row) (n : Nat) : a.grownBy (w.drewN n) row := grown_trans h (grownBy_drewN w n row)

set_option maxHeartbeats 2000000 in
theorem readByte_some (p : Nat) (s : ByteArray) (i : Nat) (hi : i < s.size) (hs : s.size ≤ 1000000000) (w : World) (hR : Rdr w p s i) :
    Calls Tryz.prog 287 #[.pointer (some ⟨p, 0, none⟩)] w fun e w' => e = .returned (.tuple #[.int .u8 (s[i].toNat : Int), .nilIface]) ∧ Rdr w' p s (i + 1) ∧ w.grownBy w' (some p) ∧ w'.heap.size = w.heap.size := by
  unfold Rdr at *
  have c0 : w.cell? ⟨p, 0, none⟩ = some (.string s) := hR.cell rfl
  have c1 : w.cell? ⟨p, 1, none⟩ = some (.int .i64 (i : Int)) := hR.cell rfl
  have c2 : w.cell? ⟨p, 2, none⟩ = some (.int .i64 (-1)) := hR.cell rfl
  have f1 := hR.free 1
  have f2 := hR.free 2
  have HR := Lib.hid hR
  clear hR
  have hd : decide ((s.size : Int) ≤ (i : Int)) = false := decide_eq_false (by omega)
  have hd2 : decide (s.size ≤ i) = false := decide_eq_false (by omega)
  go_enter Tryz.func287, Tryz.ntmps287
  go_wp2
  go_quiet (fail)
  go_wp2
  go_quiet (fail)
  go_wp2
  go_ret2
  refine ⟨rfl, ?_, ?_, ?_⟩
  · exact (HR.out.set 2 (.int .i64 (-1))).set 1 (.int .i64 ((i : Int) + 1))
  · repeat (first | exact grownBy_refl _ _ | apply grownBy_set' | apply grownBy_drew' | apply grownBy_drewN')
  · simp [World.setCell]

set_option maxHeartbeats 2000000 in
theorem readByte_none (p : Nat) (s : ByteArray) (ev : Value) (w : World) (hR : Rdr w p s s.size) (_hs : s.size ≤ 1000000000) (hE : w.cell? ⟨3, 0, none⟩ = some ev) (hp : 3 < p) :
    Calls Tryz.prog 287 #[.pointer (some ⟨p, 0, none⟩)] w fun e w' => e = .returned (.tuple #[.int .u8 0, ev]) ∧ Rdr w' p s s.size ∧ w.grownBy w' (some p) ∧ w'.heap.size = w.heap.size := by
  unfold Rdr at *
  have c0 : w.cell? ⟨p, 0, none⟩ = some (.string s) := hR.cell rfl
  have c1 : w.cell? ⟨p, 1, none⟩ = some (.int .i64 (s.size : Int)) := hR.cell rfl
  have c2 : w.cell? ⟨p, 2, none⟩ = some (.int .i64 (-1)) := hR.cell rfl
  have f2 := hR.free 2
  have hE2 : (w.setCell ⟨p, 2, none⟩ (.int .i64 (-1))).cell? ⟨3, 0, none⟩ = some ev := by
    rw [World.cell?_setCell_other]
    · exact hE
    · intro e; injection e with e; omega
  have HR := Lib.hid hR
  clear hR hE
  go_enter Tryz.func287, Tryz.ntmps287
  go_wp2
  go_quiet (fail)
  go_wp2
  go_quiet (fail)
  go_wp2
  go_ret2
  refine ⟨rfl, ?_, ?_, ?_⟩
  · exact HR.out.set 2 (.int .i64 (-1))
  · repeat (first | exact grownBy_refl _ _ | apply grownBy_set' | apply grownBy_drew' | apply grownBy_drewN')
  · simp [World.setCell]

set_option maxHeartbeats 2000000 in
theorem unreadByte_any (p : Nat) (s : ByteArray) (i : Nat) (hi : i < 1000000000) (w : World) (hR : Rdr w p s (i + 1)) :
    Calls Tryz.prog 288 #[.pointer (some ⟨p, 0, none⟩)] w fun e w' => e = .returned .nilIface ∧ Rdr w' p s i ∧ w.grownBy w' (some p) ∧ w'.heap.size = w.heap.size := by
  unfold Rdr at *
  have c0 : w.cell? ⟨p, 0, none⟩ = some (.string s) := hR.cell rfl
  have c1 : w.cell? ⟨p, 1, none⟩ = some (.int .i64 ((i : Int) + 1)) := hR.cell rfl
  have c2 : w.cell? ⟨p, 2, none⟩ = some (.int .i64 (-1)) := hR.cell rfl
  have f1 := hR.free 1
  have f2 := hR.free 2
  have HR := Lib.hid hR
  clear hR
  go_enter Tryz.func288, Tryz.ntmps288
  go_wp2
  go_ret
  refine ⟨rfl, ?_, ?_, ?_⟩
  · have := (HR.out.set 2 (.int .i64 (-1))).set 1 (.int .i64 (i : Int))
    simpa using this
  · repeat (first | exact grownBy_refl _ _ | apply grownBy_set' | apply grownBy_drew' | apply grownBy_drewN')
  · simp [World.setCell]

set_option maxHeartbeats 1000000 in
theorem newReader_any (s : ByteArray) (w : World) :
    Calls Tryz.prog 101 #[.string s] w fun e w' => e = .returned (.pointer (some ⟨w.heap.size, 0, none⟩)) ∧ Rdr w' w.heap.size s 0 ∧ Below w.heap.size w w' ∧ w'.heap.size = w.heap.size + 1 := by
  go_enter Tryz.func101, Tryz.ntmps101
  go_wp2
  go_ret
  exact ⟨rfl, Arr.new _ _ [.string s, .int .i64 0, .int .i64 (-1)], (Below.refl _ _).alloc (Nat.le_refl _) _, by simp⟩
end Go.Proofs.Tz

/- Contracts of scanSign and nat.scan. -/
namespace Go.Proofs.Tz
open Go.RowKit Mv

theorem ahead_read (a : Addr) (w : World) : (nilAhead 412 136 (.pointer (some a)) "ReadByte").run Tryz.prog w = .ok (some false) w := by kernel_rfl
theorem method_read (a : Addr) (w : World) : (method 412 136 (.pointer (some a)) "ReadByte").run Tryz.prog w = .ok (287, .pointer (some a)) w := by kernel_rfl
theorem ahead_unread (a : Addr) (w : World) : (nilAhead 412 136 (.pointer (some a)) "UnreadByte").run Tryz.prog w = .ok (some false) w := by kernel_rfl
theorem method_unread (a : Addr) (w : World) : (method 412 136 (.pointer (some a)) "UnreadByte").run Tryz.prog w = .ok (288, .pointer (some a)) w := by kernel_rfl

/-- io.EOF's value. -/
def ifp (a : Addr) : Value := .iface 296 (.pointer (some a))

set_option maxHeartbeats 2000000 in
theorem scanSign_none (p : Nat) (s : ByteArray) (ae : Addr) (w : World) (hR : Rdr w p s s.size) (hs : s.size ≤ 1000000000) (hE : w.cell? ⟨3, 0, none⟩ = some (ifp ae)) (hp : 3 < p) :
    Calls Tryz.prog 139 #[.iface 136 (.pointer (some ⟨p, 0, none⟩))] w fun e w' => e = .returned (.tuple #[.bool false, ifp ae]) ∧ Rdr w' p s s.size ∧ w.grownBy w' (some p) ∧ w'.heap.size = w.heap.size := by
  have m1 := ahead_read ⟨p, 0, none⟩
  have m2 := method_read ⟨p, 0, none⟩
  have HR := Lib.hid hR
  have HE := Lib.hid hE
  clear hR hE
  go_enter Tryz.func139, Tryz.ntmps139
  go_wp2_with fail
  refine (readByte_none p s (ifp ae) _ HR.out hs HE.out hp).mono ?_
  rintro e w' ⟨rfl, h1, h2, h3⟩
  have H1 := Lib.hid h1
  have H2 := Lib.hid h2
  have H3 := Lib.hid h3
  clear h1 h2 h3
  unfold ifp
  go_wp2_with fail
  go_ret2
  exact ⟨rfl, H1.out, H2.out, H3.out⟩

set_option maxHeartbeats 2000000 in
/-- Another byte than a sign stands first: it is left there. -/
theorem scanSign_other (p : Nat) (s : ByteArray) (w : World) (hR : Rdr w p s 0) (h0 : 0 < s.size) (hs : s.size ≤ 1000000000) (hm : s[0] ≠ 45) (hpl : s[0] ≠ 43) :
    Calls Tryz.prog 139 #[.iface 136 (.pointer (some ⟨p, 0, none⟩))] w fun e w' => e = .returned (.tuple #[.bool false, .nilIface]) ∧ Rdr w' p s 0 ∧ w.grownBy w' (some p) ∧ w'.heap.size = w.heap.size := by
  have m1 := ahead_read ⟨p, 0, none⟩
  have m2 := method_read ⟨p, 0, none⟩
  have m3 := ahead_unread ⟨p, 0, none⟩
  have m4 := method_unread ⟨p, 0, none⟩
  have HR := Lib.hid hR
  have b1 : ((s[0].toNat : Int) == 45) = false := by
    simp only [beq_eq_false_iff_ne, ne_eq]; intro e; exact hm (UInt8.toNat_inj.1 (by show s[0].toNat = 45; omega))
  have b2 : ((s[0].toNat : Int) == 43) = false := by
    simp only [beq_eq_false_iff_ne, ne_eq]; intro e; exact hpl (UInt8.toNat_inj.1 (by show s[0].toNat = 43; omega))
  clear hR hm hpl
  go_enter Tryz.func139, Tryz.ntmps139
  go_wp2_with fail
  refine (readByte_some p s 0 h0 hs _ HR.out).mono ?_
  rintro e w1 ⟨rfl, h1, h2, h3⟩
  have H1 := Lib.hid h1
  have H2 := Lib.hid h2
  have H3 := Lib.hid h3
  clear h1 h2 h3
  go_wp2_with fail
  refine (unreadByte_any p s 0 (by omega) _ H1.out).mono ?_
  rintro e w2 ⟨rfl, h1, h2, h3⟩
  have K1 := Lib.hid h1
  have K2 := Lib.hid h2
  have K3 := Lib.hid h3
  clear h1 h2 h3
  go_wp2_with fail
  go_ret2
  exact ⟨rfl, K1.out, grown_trans H2.out K2.out, K3.out.trans H3.out⟩

set_option maxHeartbeats 2000000 in
/-- A plus stands first: it is read. -/
theorem scanSign_plus (p : Nat) (s : ByteArray) (w : World) (hR : Rdr w p s 0) (h0 : 0 < s.size) (hs : s.size ≤ 1000000000) (hpl : s[0] = 43) :
    Calls Tryz.prog 139 #[.iface 136 (.pointer (some ⟨p, 0, none⟩))] w fun e w' => e = .returned (.tuple #[.bool false, .nilIface]) ∧ Rdr w' p s 1 ∧ w.grownBy w' (some p) ∧ w'.heap.size = w.heap.size := by
  have m1 := ahead_read ⟨p, 0, none⟩
  have m2 := method_read ⟨p, 0, none⟩
  have HR := Lib.hid hR
  have b1 : ((s[0].toNat : Int) == 45) = false := by rw [hpl]; rfl
  have b2 : ((s[0].toNat : Int) == 43) = true := by rw [hpl]; rfl
  clear hR hpl
  go_enter Tryz.func139, Tryz.ntmps139
  go_wp2_with fail
  refine (readByte_some p s 0 h0 hs _ HR.out).mono ?_
  rintro e w1 ⟨rfl, h1, h2, h3⟩
  have H1 := Lib.hid h1
  have H2 := Lib.hid h2
  have H3 := Lib.hid h3
  clear h1 h2 h3
  go_wp2_with fail
  go_ret2
  exact ⟨rfl, H1.out, H2.out, H3.out⟩
end Go.Proofs.Tz

/- Contracts of maxPow at 10 and of pow at 10. -/
namespace Go.Proofs.Tz
open Go.RowKit Mv

/-- The powers of 10, so far as a word goes. -/
def p10 : Nat → Int
  | 0 => 1
  | 1 => 10
  | 2 => 100
  | 3 => 1000
  | 4 => 10000
  | 5 => 100000
  | 6 => 1000000
  | 7 => 10000000
  | 8 => 100000000
  | 9 => 1000000000
  | 10 => 10000000000
  | 11 => 100000000000
  | 12 => 1000000000000
  | 13 => 10000000000000
  | 14 => 100000000000000
  | 15 => 1000000000000000
  | 16 => 10000000000000000
  | 17 => 100000000000000000
  | 18 => 1000000000000000000
  | 19 => 10000000000000000000
  | _ => 0
theorem p10_eq {k : Nat} (h : k ≤ 19) : p10 k = ((10 ^ k : Nat) : Int) := by
  rcases (by omega : k = 0 ∨ k = 1 ∨ k = 2 ∨ k = 3 ∨ k = 4 ∨ k = 5 ∨ k = 6 ∨ k = 7 ∨ k = 8 ∨ k = 9 ∨ k = 10 ∨ k = 11 ∨ k = 12 ∨ k = 13 ∨ k = 14 ∨ k = 15 ∨ k = 16 ∨ k = 17 ∨ k = 18 ∨ k = 19) with rfl | rfl | rfl | rfl | rfl | rfl | rfl | rfl | rfl | rfl | rfl | rfl | rfl | rfl | rfl | rfl | rfl | rfl | rfl | rfl <;> rfl

set_option maxHeartbeats 4000000 in
theorem maxPow_ten (w : World) : Calls Tryz.prog 119 #[.int .u64 10] w fun e w' => e = .returned (.tuple #[.int .u64 10000000000000000000, .int .i64 19]) ∧ w = w' := by
  go_enter Tryz.func119, Tryz.ntmps119
  go_wp2
  go_loop [2, 3] (fun p n => ∃ k : Nat, 1 ≤ k ∧ k ≤ 19 ∧ p = .int .u64 (p10 k) ∧ n = .int .i64 k) (fun _ n => 19 - (intOf n).toNat)
  case atStart => exact ⟨1, by omega, by omega, rfl, rfl⟩
  case round =>
    obtain ⟨k, h1, h2, rfl, rfl⟩ := hrel
    rcases (by omega : k = 1 ∨ k = 2 ∨ k = 3 ∨ k = 4 ∨ k = 5 ∨ k = 6 ∨ k = 7 ∨ k = 8 ∨ k = 9 ∨ k = 10 ∨ k = 11 ∨ k = 12 ∨ k = 13 ∨ k = 14 ∨ k = 15 ∨ k = 16 ∨ k = 17 ∨ k = 18 ∨ k = 19) with rfl | rfl | rfl | rfl | rfl | rfl | rfl | rfl | rfl | rfl | rfl | rfl | rfl | rfl | rfl | rfl | rfl | rfl | rfl
    · simp only [p10]
      go_wp2
      go_round
      case rel => exact ⟨2, by omega, by omega, rfl, rfl⟩
      case measure => simp [intOf]
    · simp only [p10]
      go_wp2
      go_round
      case rel => exact ⟨3, by omega, by omega, rfl, rfl⟩
      case measure => simp [intOf]
    · simp only [p10]
      go_wp2
      go_round
      case rel => exact ⟨4, by omega, by omega, rfl, rfl⟩
      case measure => simp [intOf]
    · simp only [p10]
      go_wp2
      go_round
      case rel => exact ⟨5, by omega, by omega, rfl, rfl⟩
      case measure => simp [intOf]
    · simp only [p10]
      go_wp2
      go_round
      case rel => exact ⟨6, by omega, by omega, rfl, rfl⟩
      case measure => simp [intOf]
    · simp only [p10]
      go_wp2
      go_round
      case rel => exact ⟨7, by omega, by omega, rfl, rfl⟩
      case measure => simp [intOf]
    · simp only [p10]
      go_wp2
      go_round
      case rel => exact ⟨8, by omega, by omega, rfl, rfl⟩
      case measure => simp [intOf]
    · simp only [p10]
      go_wp2
      go_round
      case rel => exact ⟨9, by omega, by omega, rfl, rfl⟩
      case measure => simp [intOf]
    · simp only [p10]
      go_wp2
      go_round
      case rel => exact ⟨10, by omega, by omega, rfl, rfl⟩
      case measure => simp [intOf]
    · simp only [p10]
      go_wp2
      go_round
      case rel => exact ⟨11, by omega, by omega, rfl, rfl⟩
      case measure => simp [intOf]
    · simp only [p10]
      go_wp2
      go_round
      case rel => exact ⟨12, by omega, by omega, rfl, rfl⟩
      case measure => simp [intOf]
    · simp only [p10]
      go_wp2
      go_round
      case rel => exact ⟨13, by omega, by omega, rfl, rfl⟩
      case measure => simp [intOf]
    · simp only [p10]
      go_wp2
      go_round
      case rel => exact ⟨14, by omega, by omega, rfl, rfl⟩
      case measure => simp [intOf]
    · simp only [p10]
      go_wp2
      go_round
      case rel => exact ⟨15, by omega, by omega, rfl, rfl⟩
      case measure => simp [intOf]
    · simp only [p10]
      go_wp2
      go_round
      case rel => exact ⟨16, by omega, by omega, rfl, rfl⟩
      case measure => simp [intOf]
    · simp only [p10]
      go_wp2
      go_round
      case rel => exact ⟨17, by omega, by omega, rfl, rfl⟩
      case measure => simp [intOf]
    · simp only [p10]
      go_wp2
      go_round
      case rel => exact ⟨18, by omega, by omega, rfl, rfl⟩
      case measure => simp [intOf]
    · simp only [p10]
      go_wp2
      go_round
      case rel => exact ⟨19, by omega, by omega, rfl, rfl⟩
      case measure => simp [intOf]
    · simp only [p10]
      go_wp2
      go_ret2
      exact ⟨rfl, rfl⟩
end Go.Proofs.Tz

/- Contract of pow at 10. -/
namespace Go.Proofs.Tz
open Go.RowKit Mv

set_option maxHeartbeats 4000000 in
theorem pow_1 (w : World) : Calls Tryz.prog 159 #[.int .u64 10, .int .i64 1] w fun e w' => e = .returned (.int .u64 10) ∧ w = w' := by
  have b1 : bits BinOp.and IntKind.i64 1 1 = 1 := by decide
  go_enter Tryz.func159, Tryz.ntmps159
  go_wp2
  refine wp_loop_rounds 2 ?_
  rw [rounds_succ]
  go_wp2
  rw [rounds_succ]
  go_wp2
  go_ret
  exact ⟨rfl, rfl⟩

set_option maxHeartbeats 4000000 in
theorem pow_2 (w : World) : Calls Tryz.prog 159 #[.int .u64 10, .int .i64 2] w fun e w' => e = .returned (.int .u64 100) ∧ w = w' := by
  have b2 : bits BinOp.and IntKind.i64 2 1 = 0 := by decide
  have b1 : bits BinOp.and IntKind.i64 1 1 = 1 := by decide
  go_enter Tryz.func159, Tryz.ntmps159
  go_wp2
  refine wp_loop_rounds 3 ?_
  rw [rounds_succ]
  go_wp2
  rw [rounds_succ]
  go_wp2
  rw [rounds_succ]
  go_wp2
  go_ret
  exact ⟨rfl, rfl⟩

set_option maxHeartbeats 4000000 in
theorem pow_3 (w : World) : Calls Tryz.prog 159 #[.int .u64 10, .int .i64 3] w fun e w' => e = .returned (.int .u64 1000) ∧ w = w' := by
  have b3 : bits BinOp.and IntKind.i64 3 1 = 1 := by decide
  have b1 : bits BinOp.and IntKind.i64 1 1 = 1 := by decide
  go_enter Tryz.func159, Tryz.ntmps159
  go_wp2
  refine wp_loop_rounds 3 ?_
  rw [rounds_succ]
  go_wp2
  rw [rounds_succ]
  go_wp2
  rw [rounds_succ]
  go_wp2
  go_ret
  exact ⟨rfl, rfl⟩

set_option maxHeartbeats 4000000 in
theorem pow_4 (w : World) : Calls Tryz.prog 159 #[.int .u64 10, .int .i64 4] w fun e w' => e = .returned (.int .u64 10000) ∧ w = w' := by
  have b4 : bits BinOp.and IntKind.i64 4 1 = 0 := by decide
  have b2 : bits BinOp.and IntKind.i64 2 1 = 0 := by decide
  have b1 : bits BinOp.and IntKind.i64 1 1 = 1 := by decide
  go_enter Tryz.func159, Tryz.ntmps159
  go_wp2
  refine wp_loop_rounds 4 ?_
  rw [rounds_succ]
  go_wp2
  rw [rounds_succ]
  go_wp2
  rw [rounds_succ]
  go_wp2
  rw [rounds_succ]
  go_wp2
  go_ret
  exact ⟨rfl, rfl⟩

set_option maxHeartbeats 4000000 in
theorem pow_5 (w : World) : Calls Tryz.prog 159 #[.int .u64 10, .int .i64 5] w fun e w' => e = .returned (.int .u64 100000) ∧ w = w' := by
  have b5 : bits BinOp.and IntKind.i64 5 1 = 1 := by decide
  have b2 : bits BinOp.and IntKind.i64 2 1 = 0 := by decide
  have b1 : bits BinOp.and IntKind.i64 1 1 = 1 := by decide
  go_enter Tryz.func159, Tryz.ntmps159
  go_wp2
  refine wp_loop_rounds 4 ?_
  rw [rounds_succ]
  go_wp2
  rw [rounds_succ]
  go_wp2
  rw [rounds_succ]
  go_wp2
  rw [rounds_succ]
  go_wp2
  go_ret
  exact ⟨rfl, rfl⟩

set_option maxHeartbeats 4000000 in
theorem pow_6 (w : World) : Calls Tryz.prog 159 #[.int .u64 10, .int .i64 6] w fun e w' => e = .returned (.int .u64 1000000) ∧ w = w' := by
  have b6 : bits BinOp.and IntKind.i64 6 1 = 0 := by decide
  have b3 : bits BinOp.and IntKind.i64 3 1 = 1 := by decide
  have b1 : bits BinOp.and IntKind.i64 1 1 = 1 := by decide
  go_enter Tryz.func159, Tryz.ntmps159
  go_wp2
  refine wp_loop_rounds 4 ?_
  rw [rounds_succ]
  go_wp2
  rw [rounds_succ]
  go_wp2
  rw [rounds_succ]
  go_wp2
  rw [rounds_succ]
  go_wp2
  go_ret
  exact ⟨rfl, rfl⟩

set_option maxHeartbeats 4000000 in
theorem pow_7 (w : World) : Calls Tryz.prog 159 #[.int .u64 10, .int .i64 7] w fun e w' => e = .returned (.int .u64 10000000) ∧ w = w' := by
  have b7 : bits BinOp.and IntKind.i64 7 1 = 1 := by decide
  have b3 : bits BinOp.and IntKind.i64 3 1 = 1 := by decide
  have b1 : bits BinOp.and IntKind.i64 1 1 = 1 := by decide
  go_enter Tryz.func159, Tryz.ntmps159
  go_wp2
  refine wp_loop_rounds 4 ?_
  rw [rounds_succ]
  go_wp2
  rw [rounds_succ]
  go_wp2
  rw [rounds_succ]
  go_wp2
  rw [rounds_succ]
  go_wp2
  go_ret
  exact ⟨rfl, rfl⟩

set_option maxHeartbeats 4000000 in
theorem pow_8 (w : World) : Calls Tryz.prog 159 #[.int .u64 10, .int .i64 8] w fun e w' => e = .returned (.int .u64 100000000) ∧ w = w' := by
  have b8 : bits BinOp.and IntKind.i64 8 1 = 0 := by decide
  have b4 : bits BinOp.and IntKind.i64 4 1 = 0 := by decide
  have b2 : bits BinOp.and IntKind.i64 2 1 = 0 := by decide
  have b1 : bits BinOp.and IntKind.i64 1 1 = 1 := by decide
  go_enter Tryz.func159, Tryz.ntmps159
  go_wp2
  refine wp_loop_rounds 5 ?_
  rw [rounds_succ]
  go_wp2
  rw [rounds_succ]
  go_wp2
  rw [rounds_succ]
  go_wp2
  rw [rounds_succ]
  go_wp2
  rw [rounds_succ]
  go_wp2
  go_ret
  exact ⟨rfl, rfl⟩

set_option maxHeartbeats 4000000 in
theorem pow_9 (w : World) : Calls Tryz.prog 159 #[.int .u64 10, .int .i64 9] w fun e w' => e = .returned (.int .u64 1000000000) ∧ w = w' := by
  have b9 : bits BinOp.and IntKind.i64 9 1 = 1 := by decide
  have b4 : bits BinOp.and IntKind.i64 4 1 = 0 := by decide
  have b2 : bits BinOp.and IntKind.i64 2 1 = 0 := by decide
  have b1 : bits BinOp.and IntKind.i64 1 1 = 1 := by decide
  go_enter Tryz.func159, Tryz.ntmps159
  go_wp2
  refine wp_loop_rounds 5 ?_
  rw [rounds_succ]
  go_wp2
  rw [rounds_succ]
  go_wp2
  rw [rounds_succ]
  go_wp2
  rw [rounds_succ]
  go_wp2
  rw [rounds_succ]
  go_wp2
  go_ret
  exact ⟨rfl, rfl⟩

set_option maxHeartbeats 4000000 in
theorem pow_10 (w : World) : Calls Tryz.prog 159 #[.int .u64 10, .int .i64 10] w fun e w' => e = .returned (.int .u64 10000000000) ∧ w = w' := by
  have b10 : bits BinOp.and IntKind.i64 10 1 = 0 := by decide
  have b5 : bits BinOp.and IntKind.i64 5 1 = 1 := by decide
  have b2 : bits BinOp.and IntKind.i64 2 1 = 0 := by decide
  have b1 : bits BinOp.and IntKind.i64 1 1 = 1 := by decide
  go_enter Tryz.func159, Tryz.ntmps159
  go_wp2
  refine wp_loop_rounds 5 ?_
  rw [rounds_succ]
  go_wp2
  rw [rounds_succ]
  go_wp2
  rw [rounds_succ]
  go_wp2
  rw [rounds_succ]
  go_wp2
  rw [rounds_succ]
  go_wp2
  go_ret
  exact ⟨rfl, rfl⟩

set_option maxHeartbeats 4000000 in
theorem pow_11 (w : World) : Calls Tryz.prog 159 #[.int .u64 10, .int .i64 11] w fun e w' => e = .returned (.int .u64 100000000000) ∧ w = w' := by
  have b11 : bits BinOp.and IntKind.i64 11 1 = 1 := by decide
  have b5 : bits BinOp.and IntKind.i64 5 1 = 1 := by decide
  have b2 : bits BinOp.and IntKind.i64 2 1 = 0 := by decide
  have b1 : bits BinOp.and IntKind.i64 1 1 = 1 := by decide
  go_enter Tryz.func159, Tryz.ntmps159
  go_wp2
  refine wp_loop_rounds 5 ?_
  rw [rounds_succ]
  go_wp2
  rw [rounds_succ]
  go_wp2
  rw [rounds_succ]
  go_wp2
  rw [rounds_succ]
  go_wp2
  rw [rounds_succ]
  go_wp2
  go_ret
  exact ⟨rfl, rfl⟩

set_option maxHeartbeats 4000000 in
theorem pow_12 (w : World) : Calls Tryz.prog 159 #[.int .u64 10, .int .i64 12] w fun e w' => e = .returned (.int .u64 1000000000000) ∧ w = w' := by
  have b12 : bits BinOp.and IntKind.i64 12 1 = 0 := by decide
  have b6 : bits BinOp.and IntKind.i64 6 1 = 0 := by decide
  have b3 : bits BinOp.and IntKind.i64 3 1 = 1 := by decide
  have b1 : bits BinOp.and IntKind.i64 1 1 = 1 := by decide
  go_enter Tryz.func159, Tryz.ntmps159
  go_wp2
  refine wp_loop_rounds 5 ?_
  rw [rounds_succ]
  go_wp2
  rw [rounds_succ]
  go_wp2
  rw [rounds_succ]
  go_wp2
  rw [rounds_succ]
  go_wp2
  rw [rounds_succ]
  go_wp2
  go_ret
  exact ⟨rfl, rfl⟩

set_option maxHeartbeats 4000000 in
theorem pow_13 (w : World) : Calls Tryz.prog 159 #[.int .u64 10, .int .i64 13] w fun e w' => e = .returned (.int .u64 10000000000000) ∧ w = w' := by
  have b13 : bits BinOp.and IntKind.i64 13 1 = 1 := by decide
  have b6 : bits BinOp.and IntKind.i64 6 1 = 0 := by decide
  have b3 : bits BinOp.and IntKind.i64 3 1 = 1 := by decide
  have b1 : bits BinOp.and IntKind.i64 1 1 = 1 := by decide
  go_enter Tryz.func159, Tryz.ntmps159
  go_wp2
  refine wp_loop_rounds 5 ?_
  rw [rounds_succ]
  go_wp2
  rw [rounds_succ]
  go_wp2
  rw [rounds_succ]
  go_wp2
  rw [rounds_succ]
  go_wp2
  rw [rounds_succ]
  go_wp2
  go_ret
  exact ⟨rfl, rfl⟩

set_option maxHeartbeats 4000000 in
theorem pow_14 (w : World) : Calls Tryz.prog 159 #[.int .u64 10, .int .i64 14] w fun e w' => e = .returned (.int .u64 100000000000000) ∧ w = w' := by
  have b14 : bits BinOp.and IntKind.i64 14 1 = 0 := by decide
  have b7 : bits BinOp.and IntKind.i64 7 1 = 1 := by decide
  have b3 : bits BinOp.and IntKind.i64 3 1 = 1 := by decide
  have b1 : bits BinOp.and IntKind.i64 1 1 = 1 := by decide
  go_enter Tryz.func159, Tryz.ntmps159
  go_wp2
  refine wp_loop_rounds 5 ?_
  rw [rounds_succ]
  go_wp2
  rw [rounds_succ]
  go_wp2
  rw [rounds_succ]
  go_wp2
  rw [rounds_succ]
  go_wp2
  rw [rounds_succ]
  go_wp2
  go_ret
  exact ⟨rfl, rfl⟩

set_option maxHeartbeats 4000000 in
theorem pow_15 (w : World) : Calls Tryz.prog 159 #[.int .u64 10, .int .i64 15] w fun e w' => e = .returned (.int .u64 1000000000000000) ∧ w = w' := by
  have b15 : bits BinOp.and IntKind.i64 15 1 = 1 := by decide
  have b7 : bits BinOp.and IntKind.i64 7 1 = 1 := by decide
  have b3 : bits BinOp.and IntKind.i64 3 1 = 1 := by decide
  have b1 : bits BinOp.and IntKind.i64 1 1 = 1 := by decide
  go_enter Tryz.func159, Tryz.ntmps159
  go_wp2
  refine wp_loop_rounds 5 ?_
  rw [rounds_succ]
  go_wp2
  rw [rounds_succ]
  go_wp2
  rw [rounds_succ]
  go_wp2
  rw [rounds_succ]
  go_wp2
  rw [rounds_succ]
  go_wp2
  go_ret
  exact ⟨rfl, rfl⟩

set_option maxHeartbeats 4000000 in
theorem pow_16 (w : World) : Calls Tryz.prog 159 #[.int .u64 10, .int .i64 16] w fun e w' => e = .returned (.int .u64 10000000000000000) ∧ w = w' := by
  have b16 : bits BinOp.and IntKind.i64 16 1 = 0 := by decide
  have b8 : bits BinOp.and IntKind.i64 8 1 = 0 := by decide
  have b4 : bits BinOp.and IntKind.i64 4 1 = 0 := by decide
  have b2 : bits BinOp.and IntKind.i64 2 1 = 0 := by decide
  have b1 : bits BinOp.and IntKind.i64 1 1 = 1 := by decide
  go_enter Tryz.func159, Tryz.ntmps159
  go_wp2
  refine wp_loop_rounds 6 ?_
  rw [rounds_succ]
  go_wp2
  rw [rounds_succ]
  go_wp2
  rw [rounds_succ]
  go_wp2
  rw [rounds_succ]
  go_wp2
  rw [rounds_succ]
  go_wp2
  rw [rounds_succ]
  go_wp2
  go_ret
  exact ⟨rfl, rfl⟩

set_option maxHeartbeats 4000000 in
theorem pow_17 (w : World) : Calls Tryz.prog 159 #[.int .u64 10, .int .i64 17] w fun e w' => e = .returned (.int .u64 100000000000000000) ∧ w = w' := by
  have b17 : bits BinOp.and IntKind.i64 17 1 = 1 := by decide
  have b8 : bits BinOp.and IntKind.i64 8 1 = 0 := by decide
  have b4 : bits BinOp.and IntKind.i64 4 1 = 0 := by decide
  have b2 : bits BinOp.and IntKind.i64 2 1 = 0 := by decide
  have b1 : bits BinOp.and IntKind.i64 1 1 = 1 := by decide
  go_enter Tryz.func159, Tryz.ntmps159
  go_wp2
  refine wp_loop_rounds 6 ?_
  rw [rounds_succ]
  go_wp2
  rw [rounds_succ]
  go_wp2
  rw [rounds_succ]
  go_wp2
  rw [rounds_succ]
  go_wp2
  rw [rounds_succ]
  go_wp2
  rw [rounds_succ]
  go_wp2
  go_ret
  exact ⟨rfl, rfl⟩

set_option maxHeartbeats 4000000 in
theorem pow_18 (w : World) : Calls Tryz.prog 159 #[.int .u64 10, .int .i64 18] w fun e w' => e = .returned (.int .u64 1000000000000000000) ∧ w = w' := by
  have b18 : bits BinOp.and IntKind.i64 18 1 = 0 := by decide
  have b9 : bits BinOp.and IntKind.i64 9 1 = 1 := by decide
  have b4 : bits BinOp.and IntKind.i64 4 1 = 0 := by decide
  have b2 : bits BinOp.and IntKind.i64 2 1 = 0 := by decide
  have b1 : bits BinOp.and IntKind.i64 1 1 = 1 := by decide
  go_enter Tryz.func159, Tryz.ntmps159
  go_wp2
  refine wp_loop_rounds 6 ?_
  rw [rounds_succ]
  go_wp2
  rw [rounds_succ]
  go_wp2
  rw [rounds_succ]
  go_wp2
  rw [rounds_succ]
  go_wp2
  rw [rounds_succ]
  go_wp2
  rw [rounds_succ]
  go_wp2
  go_ret
  exact ⟨rfl, rfl⟩

theorem pow_any (i : Nat) (h1 : 1 ≤ i) (h2 : i ≤ 18) (w : World) : Calls Tryz.prog 159 #[.int .u64 10, .int .i64 i] w fun e w' => e = .returned (.int .u64 (p10 i)) ∧ w = w' := by
  rcases (by omega : i = 1 ∨ i = 2 ∨ i = 3 ∨ i = 4 ∨ i = 5 ∨ i = 6 ∨ i = 7 ∨ i = 8 ∨ i = 9 ∨ i = 10 ∨ i = 11 ∨ i = 12 ∨ i = 13 ∨ i = 14 ∨ i = 15 ∨ i = 16 ∨ i = 17 ∨ i = 18) with rfl | rfl | rfl | rfl | rfl | rfl | rfl | rfl | rfl | rfl | rfl | rfl | rfl | rfl | rfl | rfl | rfl | rfl
  · exact pow_1 w
  · exact pow_2 w
  · exact pow_3 w
  · exact pow_4 w
  · exact pow_5 w
  · exact pow_6 w
  · exact pow_7 w
  · exact pow_8 w
  · exact pow_9 w
  · exact pow_10 w
  · exact pow_11 w
  · exact pow_12 w
  · exact pow_13 w
  · exact pow_14 w
  · exact pow_15 w
  · exact pow_16 w
  · exact pow_17 w
  · exact pow_18 w
end Go.Proofs.Tz
