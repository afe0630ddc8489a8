/- Contract of nat.scan at base 10: no digit stands first. -/
import Derived.Test.YtcehboopgjpfcaaGreatDoorA9
namespace Go.Proofs.Tz
open Go.RowKit Mv

theorem eql_nil_ifp (a : Addr) (w : World) : (binOp .eql 71 .nilIface (ifp a)).run Tryz.prog w = .ok (.bool false) w := run_eql_iface_nil_left w 296 _ Tryz.underlying71

set_option maxHeartbeats 4000000 in
set_option maxRecDepth 100000 in
theorem scan_end (p : Nat) (s : ByteArray) (ae an : Addr) (w : World) (hR : Rdr w p s s.size) (hs : s.size ≤ 1000000) (hE : w.cell? ⟨3, 0, none⟩ = some (ifp ae)) (hN : w.cell? ⟨10, 0, none⟩ = some (ifp an)) (hp : 16 < p) :
    Calls Tryz.prog 140 #[.slice none 0 0, .iface 136 (.pointer (some ⟨p, 0, none⟩)), .int .i64 10, .bool false] w fun e w' =>
      e = .returned (.tuple #[.slice none 0 0, .int .i64 10, .int .i64 0, ifp an]) ∧ w.grownBy w' (some p) := by
  have m1 := ahead_read ⟨p, 0, none⟩
  have m2 := method_read ⟨p, 0, none⟩
  have HR := Lib.hid hR
  have HE := Lib.hid hE
  have HN := Lib.hid hN
  clear hR hE hN
  go_enter Tryz.func140, Tryz.ntmps140
  go_wp2_with fail
  refine (readByte_none p s (ifp ae) _ HR.out (by omega) HE.out (by omega)).mono ?_
  rintro e w1 ⟨rfl, h1, h2, h3⟩
  have hEr : w1.cell? ⟨3, 0, none⟩ = some (ifp ae) := (World.cell?_of_block (a := ⟨3, 0, none⟩) (h2.block 3 (World.block_lt_of_cell? w _ HE.out) (by simp; omega))).trans HE.out
  have hNr : w1.cell? ⟨10, 0, none⟩ = some (ifp an) := (World.cell?_of_block (a := ⟨10, 0, none⟩) (h2.block 10 (World.block_lt_of_cell? w _ HN.out) (by simp; omega))).trans HN.out
  have heq := eql_ifp ae
  unfold ifp at heq hEr hNr ⊢
  have H2 := Lib.hid h2
  clear h1 h2 h3
  go_wp2_with fail
  refine (maxPow_ten _).mono ?_
  rintro e w' ⟨rfl, rfl⟩
  go_wp2_with fail
  refine wp_loop_rounds 1 ?_
  rw [rounds_succ]
  go_wp2_with fail
  refine bodyPost_ret (v := .tuple #[.slice none 0 0, .int .i64 10, .int .i64 0, .iface 296 (.pointer (some an))]) (by simp [results, Tryz.results140, go_sem]) rfl ⟨rfl, H2.out⟩

set_option maxHeartbeats 4000000 in
set_option maxRecDepth 100000 in
theorem scan_bad (p : Nat) (s : ByteArray) (i : Nat) (hi : i < s.size) (ae an : Addr) (w : World) (hR : Rdr w p s i) (hs : s.size ≤ 1000000) (hd : isDig s[i] = false) (hE : w.cell? ⟨3, 0, none⟩ = some (ifp ae)) (hN : w.cell? ⟨10, 0, none⟩ = some (ifp an)) (hp : 16 < p) :
    Calls Tryz.prog 140 #[.slice none 0 0, .iface 136 (.pointer (some ⟨p, 0, none⟩)), .int .i64 10, .bool false] w fun e w' =>
      e = .returned (.tuple #[.slice none 0 0, .int .i64 10, .int .i64 0, ifp an]) ∧ w.grownBy w' (some p) := by
  have m1 := ahead_read ⟨p, 0, none⟩
  have m2 := method_read ⟨p, 0, none⟩
  have m3 := ahead_unread ⟨p, 0, none⟩
  have m4 := method_unread ⟨p, 0, none⟩
  have HR := Lib.hid hR
  have HE := Lib.hid hE
  have HN := Lib.hid hN
  obtain ⟨c, hc⟩ : ∃ c : UInt8, c = s[i] := ⟨_, rfl⟩
  rw [← hc] at hd
  have hcd : ¬ (48 ≤ c.toNat ∧ c.toNat ≤ 57) := fun h => by rw [(isDig_iff c).2 h] at hd; cases hd
  have hrd := readByte_some p s i hi (by omega) w HR.out
  rw [← hc] at hrd
  have hc2 : c.toNat < 256 := c.toNat_lt
  obtain ⟨k, hk⟩ : ∃ k : Nat, k = c.toNat := ⟨_, rfl⟩
  rw [← hk] at hrd hcd hc2
  have HK := Lib.hid hk
  have HRD := Lib.hid hrd
  clear hR hE hN hc hd hk hrd
  go_enter Tryz.func140, Tryz.ntmps140
  go_wp2_with fail
  refine (HRD.out).mono ?_
  rintro e w1 ⟨rfl, h1, h2, h3⟩
  have H1 := Lib.hid h1
  have hNr : w1.cell? ⟨10, 0, none⟩ = some (ifp an) := (World.cell?_of_block (a := ⟨10, 0, none⟩) (h2.block 10 (World.block_lt_of_cell? w _ HN.out) (by simp; omega))).trans HN.out
  have hEr : w1.cell? ⟨3, 0, none⟩ = some (ifp ae) := (World.cell?_of_block (a := ⟨3, 0, none⟩) (h2.block 3 (World.block_lt_of_cell? w _ HE.out) (by simp; omega))).trans HE.out
  have HER := Lib.hid hEr
  have HNR := Lib.hid hNr
  have H2 := Lib.hid h2
  clear h1 h2 h3 hNr hEr
  go_wp2_with fail
  refine (maxPow_ten _).mono ?_
  rintro e w' ⟨rfl, rfl⟩
  go_wp2_with fail
  refine wp_loop_rounds 1 ?_
  rw [rounds_succ]
  have hcases : k < 48 ∧ k ≠ 46 ∨ k = 46 ∨ (57 < k ∧ k < 65) ∨ (65 ≤ k ∧ k ≤ 90) ∨ (90 < k ∧ k < 97 ∧ k ≠ 95) ∨ k = 95 ∨ (97 ≤ k ∧ k ≤ 122) ∨ 122 < k := by omega
  clear hcd
  rcases hcases with ⟨a1, a2⟩ | rfl | ⟨a1, a2⟩ | ⟨a1, a2⟩ | ⟨a1, a2, a3⟩ | rfl | ⟨a1, a2⟩ | a1
  all_goals
    go_wp2_with fail
    refine (unreadByte_any p s i (by omega) _ H1.out).mono ?_
    rintro e w2 ⟨rfl, h1, h2, h3⟩
    have hNr : w2.cell? ⟨10, 0, none⟩ = some (ifp an) := (World.cell?_of_block (a := ⟨10, 0, none⟩) (h2.block 10 (World.block_lt_of_cell? _ _ HNR.out) (by simp; omega))).trans HNR.out
    have hEr : w2.cell? ⟨3, 0, none⟩ = some (ifp ae) := (World.cell?_of_block (a := ⟨3, 0, none⟩) (h2.block 3 (World.block_lt_of_cell? _ _ HER.out) (by simp; omega))).trans HER.out
    have heq := eql_nil_ifp ae
    unfold ifp at hNr hEr heq
    have K2 := Lib.hid h2
    clear h1 h2 h3
    go_wp2_with fail
    refine bodyPost_ret (v := .tuple #[.slice none 0 0, .int .i64 10, .int .i64 0, ifp an]) (by simp [results, Tryz.results140, go_sem, ifp]) rfl ⟨rfl, grown_trans H2.out K2.out⟩
end Go.Proofs.Tz
