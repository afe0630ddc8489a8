/- Contracts of great and of the reference's known tokens. -/
import Derived.Test.YtcehboopgjpfcaaGreatDoorS2
namespace Go.Proofs.Tz
open Go.RowKit Mv

theorem upper_append (a b : Bs) : upper (a ++ b) = upper a ++ upper b := by unfold upper; rw [List.map_append]
theorem encode_asc (c : UInt8) (h : c.toNat < 128) : Utf8.encode (c.toNat : Int) = str [c] := by
  have hall : (List.range 128).all (fun n => decide ((Utf8.encode (n : Int)).data.toList = [UInt8.ofNat n])) = true := by decide +kernel
  have := List.all_eq_true.1 hall c.toNat (List.mem_range.2 h)
  rw [decide_eq_true_eq, UInt8.ofNat_toNat] at this
  rw [← str_of (Utf8.encode (c.toNat : Int)), this]
theorem up_val (c : UInt8) (h1 : 97 ≤ c.toNat) (h2 : c.toNat ≤ 122) : ((up c).toNat : Int) = (c.toNat : Int) - 32 ∧ (up c).toNat < 128 := by
  have hc : (97 ≤ c && c ≤ 122) = true := by
    simp only [Bool.and_eq_true, decide_eq_true_eq]
    exact ⟨h1, h2⟩
  have h3 : (up c).toNat = c.toNat - 32 := by
    unfold up
    rw [if_pos hc, UInt8.toNat_sub_of_le _ _ (by show 32 ≤ c.toNat; omega)]; rfl
  rw [h3]
  omega
theorem up_other (c : UInt8) (h : ¬ (97 ≤ c.toNat ∧ c.toNat ≤ 122)) : up c = c := by
  unfold up
  rw [if_neg]
  simp only [Bool.and_eq_true, decide_eq_true_eq]
  exact h

set_option maxHeartbeats 2000000 in
set_option maxRecDepth 100000 in
theorem great_any (l : Bs) (hl : l.length ≤ 1000000) (ha : Asc l) (w : World) :
    Calls Tryz.prog 20 #[.string (str l)] w fun e w' => e = .returned (.string (str (upper l))) ∧ w = w' := by
  have hsl : (str l).size = l.length := str_size l
  have HA := Lib.hid ha
  clear ha
  go_enter Tryz.func20, Tryz.ntmps20
  go_wp2_with fail
  go_loop [3, 4, 5] (fun o x z => ∃ (i : Nat) (zv : Value), zv = z ∧ x = .int .i64 (i : Int) ∧ i ≤ l.length ∧ o = .string (str (upper (l.take i)))) (fun _ x _ => l.length - (intOf x).toNat)
  case atStart => exact ⟨0, _, rfl, rfl, Nat.zero_le _, rfl⟩
  case round =>
    obtain ⟨i, zv, rfl, rfl, hi, rfl⟩ := hrel
    obtain ⟨S, hS⟩ : ∃ S, S = upper (l.take i) := ⟨_, rfl⟩
    rw [← hS]
    have hSl : S.length ≤ l.length := by rw [hS]; unfold upper; rw [List.length_map, List.length_take]; omega
    have hss := str_size
    have HSS := Lib.hid hS
    clear hS
    by_cases hil : i < l.length
    · obtain ⟨c, hc⟩ : ∃ c, l[i]? = some c := ⟨_, List.getElem?_eq_getElem hil⟩
      have q2 := str_index hc
      have hc128 := HA.out c (List.mem_of_getElem? hc)
      have HC := Lib.hid hc
      have HC8 := Lib.hid hc128
      clear hc hc128
      unfold byt at q2
      have hb8 := HC8.out
      have hstep : str S ++ str [up c] = str (upper (l.take (i + 1))) := by
        rw [str_append, take_snoc HC.out, upper_append, ← HSS.out]; rfl
      have HST := Lib.hid hstep
      clear hstep
      by_cases h1 : 97 ≤ c.toNat
      · have b1 : decide ((c.toNat : Int) ≥ 97) = true := by simp; omega
        by_cases h2 : c.toNat ≤ 122
        · have b2 : decide ((c.toNat : Int) ≤ 122) = true := by simp; omega
          obtain ⟨e1, e2⟩ := up_val c h1 h2
          have henc := encode_asc (up c) e2
          rw [e1, show (c.toNat : Int) - 32 = ((c.toNat : Int) - 32) % 256 by omega] at henc
          clear e1
          have HH := Lib.hid (And.intro h1 h2)
          clear h1 h2 e2
          go_wp2_with fail
          go_round
          case rel => exact ⟨i + 1, _, rfl, by go_num, by omega, by rw [← HST.out]⟩
          case measure => simp [intOf]; omega
        · have b2 : decide ((c.toNat : Int) ≤ 122) = false := by simp; omega
          have henc := encode_asc c HC8.out
          obtain ⟨E, hE⟩ : ∃ E, E = str [c] := ⟨_, rfl⟩
          have hEs : E.size = 1 := by rw [hE, str_size]; rfl
          rw [← hE] at henc
          have HEE := Lib.hid hE
          clear hE
          rw [up_other c (fun h => h2 h.2)] at HST
          clear h1 h2
          go_wp2_with fail
          go_round
          case rel => exact ⟨i + 1, _, rfl, by go_num, by omega, by rw [← HST.out, HEE.out]⟩
          case measure => simp [intOf]; omega
      · have b1 : decide ((c.toNat : Int) ≥ 97) = false := by simp; omega
        have henc := encode_asc c HC8.out
        obtain ⟨E, hE⟩ : ∃ E, E = str [c] := ⟨_, rfl⟩
        have hEs : E.size = 1 := by rw [hE, str_size]; rfl
        rw [← hE] at henc
        have HEE := Lib.hid hE
        clear hE
        rw [up_other c (fun h => h1 h.1)] at HST
        clear h1
        go_wp2_with fail
        go_round
        case rel => exact ⟨i + 1, _, rfl, by go_num, by omega, by rw [← HST.out, HEE.out]⟩
        case measure => simp [intOf]; omega
    · have hie : i = l.length := by omega
      subst hie
      have hS := HSS.out
      rw [List.take_length] at hS
      have HS2 := Lib.hid hS
      clear hS
      go_wp2_with fail
      go_ret
      exact ⟨by rw [HS2.out]; rfl, rfl⟩
end Go.Proofs.Tz
