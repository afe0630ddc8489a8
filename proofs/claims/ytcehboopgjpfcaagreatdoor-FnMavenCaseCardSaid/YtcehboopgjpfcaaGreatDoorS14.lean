/- Contract of the statement's ascii. -/
import Derived.Test.YtcehboopgjpfcaaGreatDoorL8
import Derived.Test.YtcehboopgjpfcaaGreatDoorS2
namespace Go.Proofs.Tz
open Go.RowKit Mv

set_option maxHeartbeats 2000000 in
theorem ascii36 (a : Option Addr) (c : Nat) (L : List Bs) (hl : L.length ≤ 1000000000) (hlen : ∀ s ∈ L, s.length ≤ 1000000000) (w : World) (h : RowS w a L) : Calls Tryz.prog 36 #[.slice a L.length c] w fun e w' => e = .returned (.bool (L.all isAsc)) ∧ w = w' := by
  have H := Lib.hid h
  have HLN := Lib.hid hlen
  have hss := str_size
  clear h hlen
  go_enter Tryz.func36, Tryz.ntmps36
  go_wp2_with fail
  go_loop [4, 5, 8] (fun z k x => ∃ (zv kv : Value) (i : Nat), zv = z ∧ kv = k ∧ x = .int .i64 (i : Int) ∧ i ≤ L.length ∧ Hid (∀ s ∈ L.take i, isAsc s = true)) (fun _ _ x => L.length - (intOf x).toNat)
  case atStart => exact ⟨_, _, 0, rfl, rfl, rfl, Nat.zero_le _, Lib.hid (by simp)⟩
  case round =>
    obtain ⟨zv, kv, i, rfl, rfl, rfl, hi, J⟩ := hrel
    by_cases hil : i < L.length
    · obtain ⟨s, hs⟩ : ∃ s, L[i]? = some s := ⟨_, List.getElem?_eq_getElem hil⟩
      obtain ⟨b, o, hb, hc⟩ := H.out i s hs
      subst hb
      have hsl := HLN.out s (List.mem_of_getElem? hs)
      have HS := Lib.hid hs
      clear hs
      go_wp2_with fail
      go_loop [5] (fun x => ∃ j : Nat, x = .int .i64 (j : Int) ∧ j ≤ s.length ∧ Hid (∀ c ∈ s.take j, c.toNat < 128)) (fun x => s.length - (intOf x).toNat)
      case atStart => exact ⟨0, rfl, Nat.zero_le _, Lib.hid (by simp)⟩
      case round =>
        obtain ⟨j, rfl, hj, HJ⟩ := hrel
        by_cases hjl : j < s.length
        · obtain ⟨d, hd⟩ : ∃ d, s[j]? = some d := ⟨_, List.getElem?_eq_getElem hjl⟩
          have q2 := str_index hd
          have HC := Lib.hid hd
          clear hd
          unfold byt at q2
          by_cases h1 : 127 < d.toNat
          · have hf : L.all isAsc = false := by
              cases h : L.all isAsc
              · rfl
              · have h2 := List.all_eq_true.1 h s (List.mem_of_getElem? HS.out)
                have := (isAsc_iff s).1 h2 d (List.mem_of_getElem? HC.out); omega
            have HF := Lib.hid hf
            have b1 : decide ((d.toNat : Int) > 127) = true := by simp; omega
            clear hf h1
            go_wp2_with fail
            go_ret
            exact ⟨by rw [HF.out]; rfl, rfl⟩
          · have HN := Lib.hid (take_all HJ.out HC.out (show d.toNat < 128 by omega))
            have b1 : decide ((d.toNat : Int) > 127) = false := by simp; omega
            clear h1
            go_wp2_with fail
            go_round
            case rel => exact ⟨j + 1, by go_num, by omega, HN⟩
            case measure => simp [intOf]; omega
        · have hd : isAsc s = true := (isAsc_iff s).2 fun c hc => HJ.out c (by rw [List.take_of_length_le (by omega)]; exact hc)
          have HN := Lib.hid (take_all' J.out HS.out hd)
          clear hd
          go_wp2_with fail
          go_round
          case rel => exact ⟨_, _, i + 1, rfl, rfl, by go_num, by omega, HN⟩
          case measure => simp [intOf]; omega
    · have hd : L.all isAsc = true := List.all_eq_true.2 fun s hs => J.out s (by rw [List.take_of_length_le (by omega)]; exact hs)
      have HD := Lib.hid hd
      clear hd
      go_wp2_with fail
      go_ret
      exact ⟨by rw [HD.out]; rfl, rfl⟩
end Go.Proofs.Tz
