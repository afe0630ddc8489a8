/- Contracts of the reference's order of numbers and of qualifiers (printed by gen_s5.py). -/
import Derived.Test.YtcehboopgjpfcaaGreatDoorS4
namespace Go.Proofs.Tz
open Go.RowKit Mv

theorem unz_cons (r : Bs) : unz (48 :: r) = unz r := by unfold unz; rw [List.dropWhile_cons]; rfl
theorem unz_stop {c : UInt8} {r : Bs} (h : c ≠ 48) : unz (c :: r) = c :: r := by unfold unz; rw [List.dropWhile_cons]; simp [h]

set_option maxHeartbeats 8000000 in
theorem orderNumbers62 (a b : Bs) (_la : a.length ≤ 1000000) (_lb : b.length ≤ 1000000) (w : World) :
    Calls Tryz.prog 62 #[.string (str a), .string (str b)] w fun e w' => e = .returned (.int .i64 (cmpD a b)) ∧ w = w' := by
  have hss := str_size
  go_enter Tryz.func62, Tryz.ntmps62
  go_wp2_with fail
  go_loop [0] (fun x => ∃ s : Bs, x = .string (str s) ∧ s.length ≤ a.length ∧ Hid (unz s = unz a)) (fun x => match x with | .string s => s.size | _ => 0)
  case atStart => exact ⟨a, rfl, Nat.le_refl _, Lib.hid rfl⟩
  case round =>
    obtain ⟨s, rfl, hLs, Hs⟩ := hrel
    by_cases h0 : s = []
    · obtain ⟨U, hU⟩ : ∃ u, u = s := ⟨_, rfl⟩
      have HU : Hid (U = unz a) := Lib.hid (by rw [← Hs.out, hU, h0]; rfl)
      rw [← hU] at hLs ⊢
      have b0s : decide (0 < U.length) = false := by rw [hU, h0]; rfl
      clear h0 hU Hs
      go_wp2_with fail
      go_loop [1] (fun x => ∃ s : Bs, x = .string (str s) ∧ s.length ≤ b.length ∧ Hid (unz s = unz b)) (fun x => match x with | .string s => s.size | _ => 0)
      case atStart => exact ⟨b, rfl, Nat.le_refl _, Lib.hid rfl⟩
      case round =>
        obtain ⟨t, rfl, hLt, Ht⟩ := hrel
        by_cases h0 : t = []
        · obtain ⟨V, hU⟩ : ∃ u, u = t := ⟨_, rfl⟩
          have HV : Hid (V = unz b) := Lib.hid (by rw [← Ht.out, hU, h0]; rfl)
          rw [← hU] at hLt ⊢
          have b0t : decide (0 < V.length) = false := by rw [hU, h0]; rfl
          clear h0 hU Ht
          skip
          by_cases hl : U.length = V.length
          · have b1 : ((U.length : Int) != (V.length : Int)) = false := by simp; omega
            have b2 : ((U.length : Int) == (V.length : Int)) = true := by simp; omega
            have h58 := order58 U V w
            have H58 := Lib.hid h58
            have HD := Lib.hid (show cmpD a b = cmpB U V by unfold cmpD; rw [← HU.out, ← HV.out, if_neg (by simp [hl])])
            clear h58 hl
            go_wp2_with fail
            (with_reducible refine (H58.out).mono ?_)
            rintro e w1 ⟨rfl, rfl⟩
            go_wp2_with fail
            go_ret
            exact ⟨by rw [HD.out]; rfl, rfl⟩
          · have b1 : ((U.length : Int) != (V.length : Int)) = true := by simp; omega
            have b2 : ((U.length : Int) == (V.length : Int)) = false := by simp; omega
            have h57 := orderInts57 U.length V.length w
            have H57 := Lib.hid h57
            have HD := Lib.hid (show cmpD a b = cmpN U.length V.length by unfold cmpD; rw [← HU.out, ← HV.out, if_pos hl])
            clear h57 hl
            go_wp2_with fail
            (with_reducible refine (H57.out).mono ?_)
            rintro e w1 ⟨rfl, rfl⟩
            go_wp2_with fail
            go_ret
            exact ⟨by rw [HD.out]; rfl, rfl⟩
        · obtain ⟨c, r, hc⟩ := List.exists_cons_of_ne_nil h0
          have b00 : 0 < t.length := by rw [hc]; simp
          have q2 : ∀ h : 0 < (str t).size, (str t)[0]'h = c := fun h => str_get (l := t) (i := 0) (c := c) (by rw [hc]; rfl) h
          by_cases h48 : c = 48
          · have b2 : ((c.toNat : Int) == 48) = true := by rw [h48]; rfl
            have hsl : (str t).extract 1 t.length = str (t.drop 1) := by rw [str_extract, List.take_length]
            have hdr : t.drop 1 = r := by rw [hc]; rfl
            have hun : Hid (unz (t.drop 1) = unz b) := Lib.hid (by rw [hdr, ← Ht.out, hc, h48, unz_cons])
            have hrl : (t.drop 1).length < t.length := by rw [List.length_drop]; omega
            clear h48 hc h0 Ht hdr
            go_wp2_with fail
            go_round
            case rel => exact ⟨t.drop 1, by first | rfl | simp, by omega, hun⟩
            case measure => simp [str_size]; omega
          · have b2 : ((c.toNat : Int) == 48) = false := by
              simp only [beq_eq_false_iff_ne, ne_eq]
              intro e
              exact h48 (UInt8.toNat_inj.1 (by show c.toNat = 48; omega))
            obtain ⟨V, hU⟩ : ∃ u, u = t := ⟨_, rfl⟩
            have HV : Hid (V = unz b) := Lib.hid (by rw [← Ht.out, hU, hc, unz_stop h48])
            rw [← hU] at hLt b00 q2 ⊢
            clear h0 hU Ht hc h48
            skip
            by_cases hl : U.length = V.length
            · have b1 : ((U.length : Int) != (V.length : Int)) = false := by simp; omega
              have b2 : ((U.length : Int) == (V.length : Int)) = true := by simp; omega
              have h58 := order58 U V w
              have H58 := Lib.hid h58
              have HD := Lib.hid (show cmpD a b = cmpB U V by unfold cmpD; rw [← HU.out, ← HV.out, if_neg (by simp [hl])])
              clear h58 hl
              go_wp2_with fail
              (with_reducible refine (H58.out).mono ?_)
              rintro e w1 ⟨rfl, rfl⟩
              go_wp2_with fail
              go_ret
              exact ⟨by rw [HD.out]; rfl, rfl⟩
            · have b1 : ((U.length : Int) != (V.length : Int)) = true := by simp; omega
              have b2 : ((U.length : Int) == (V.length : Int)) = false := by simp; omega
              have h57 := orderInts57 U.length V.length w
              have H57 := Lib.hid h57
              have HD := Lib.hid (show cmpD a b = cmpN U.length V.length by unfold cmpD; rw [← HU.out, ← HV.out, if_pos hl])
              clear h57 hl
              go_wp2_with fail
              (with_reducible refine (H57.out).mono ?_)
              rintro e w1 ⟨rfl, rfl⟩
              go_wp2_with fail
              go_ret
              exact ⟨by rw [HD.out]; rfl, rfl⟩
    · obtain ⟨c, r, hc⟩ := List.exists_cons_of_ne_nil h0
      have b00 : 0 < s.length := by rw [hc]; simp
      have q2 : ∀ h : 0 < (str s).size, (str s)[0]'h = c := fun h => str_get (l := s) (i := 0) (c := c) (by rw [hc]; rfl) h
      by_cases h48 : c = 48
      · have b2 : ((c.toNat : Int) == 48) = true := by rw [h48]; rfl
        have hsl : (str s).extract 1 s.length = str (s.drop 1) := by rw [str_extract, List.take_length]
        have hdr : s.drop 1 = r := by rw [hc]; rfl
        have hun : Hid (unz (s.drop 1) = unz a) := Lib.hid (by rw [hdr, ← Hs.out, hc, h48, unz_cons])
        have hrl : (s.drop 1).length < s.length := by rw [List.length_drop]; omega
        clear h48 hc h0 Hs hdr
        go_wp2_with fail
        go_round
        case rel => exact ⟨s.drop 1, by first | rfl | simp, by omega, hun⟩
        case measure => simp [str_size]; omega
      · have b2 : ((c.toNat : Int) == 48) = false := by
          simp only [beq_eq_false_iff_ne, ne_eq]
          intro e
          exact h48 (UInt8.toNat_inj.1 (by show c.toNat = 48; omega))
        obtain ⟨U, hU⟩ : ∃ u, u = s := ⟨_, rfl⟩
        have HU : Hid (U = unz a) := Lib.hid (by rw [← Hs.out, hU, hc, unz_stop h48])
        rw [← hU] at hLs b00 q2 ⊢
        clear h0 hU Hs hc h48
        go_wp2_with fail
        go_loop [1] (fun x => ∃ s : Bs, x = .string (str s) ∧ s.length ≤ b.length ∧ Hid (unz s = unz b)) (fun x => match x with | .string s => s.size | _ => 0)
        case atStart => exact ⟨b, rfl, Nat.le_refl _, Lib.hid rfl⟩
        case round =>
          obtain ⟨t, rfl, hLt, Ht⟩ := hrel
          by_cases h0 : t = []
          · obtain ⟨V, hU⟩ : ∃ u, u = t := ⟨_, rfl⟩
            have HV : Hid (V = unz b) := Lib.hid (by rw [← Ht.out, hU, h0]; rfl)
            rw [← hU] at hLt ⊢
            have b0t : decide (0 < V.length) = false := by rw [hU, h0]; rfl
            clear h0 hU Ht
            skip
            by_cases hl : U.length = V.length
            · have b1 : ((U.length : Int) != (V.length : Int)) = false := by simp; omega
              have b2 : ((U.length : Int) == (V.length : Int)) = true := by simp; omega
              have h58 := order58 U V w
              have H58 := Lib.hid h58
              have HD := Lib.hid (show cmpD a b = cmpB U V by unfold cmpD; rw [← HU.out, ← HV.out, if_neg (by simp [hl])])
              clear h58 hl
              go_wp2_with fail
              (with_reducible refine (H58.out).mono ?_)
              rintro e w1 ⟨rfl, rfl⟩
              go_wp2_with fail
              go_ret
              exact ⟨by rw [HD.out]; rfl, rfl⟩
            · have b1 : ((U.length : Int) != (V.length : Int)) = true := by simp; omega
              have b2 : ((U.length : Int) == (V.length : Int)) = false := by simp; omega
              have h57 := orderInts57 U.length V.length w
              have H57 := Lib.hid h57
              have HD := Lib.hid (show cmpD a b = cmpN U.length V.length by unfold cmpD; rw [← HU.out, ← HV.out, if_pos hl])
              clear h57 hl
              go_wp2_with fail
              (with_reducible refine (H57.out).mono ?_)
              rintro e w1 ⟨rfl, rfl⟩
              go_wp2_with fail
              go_ret
              exact ⟨by rw [HD.out]; rfl, rfl⟩
          · obtain ⟨c, r, hc⟩ := List.exists_cons_of_ne_nil h0
            have b00 : 0 < t.length := by rw [hc]; simp
            have q2 : ∀ h : 0 < (str t).size, (str t)[0]'h = c := fun h => str_get (l := t) (i := 0) (c := c) (by rw [hc]; rfl) h
            by_cases h48 : c = 48
            · have b2 : ((c.toNat : Int) == 48) = true := by rw [h48]; rfl
              have hsl : (str t).extract 1 t.length = str (t.drop 1) := by rw [str_extract, List.take_length]
              have hdr : t.drop 1 = r := by rw [hc]; rfl
              have hun : Hid (unz (t.drop 1) = unz b) := Lib.hid (by rw [hdr, ← Ht.out, hc, h48, unz_cons])
              have hrl : (t.drop 1).length < t.length := by rw [List.length_drop]; omega
              clear h48 hc h0 Ht hdr
              go_wp2_with fail
              go_round
              case rel => exact ⟨t.drop 1, by first | rfl | simp, by omega, hun⟩
              case measure => simp [str_size]; omega
            · have b2 : ((c.toNat : Int) == 48) = false := by
                simp only [beq_eq_false_iff_ne, ne_eq]
                intro e
                exact h48 (UInt8.toNat_inj.1 (by show c.toNat = 48; omega))
              obtain ⟨V, hU⟩ : ∃ u, u = t := ⟨_, rfl⟩
              have HV : Hid (V = unz b) := Lib.hid (by rw [← Ht.out, hU, hc, unz_stop h48])
              rw [← hU] at hLt b00 q2 ⊢
              clear h0 hU Ht hc h48
              skip
              by_cases hl : U.length = V.length
              · have b1 : ((U.length : Int) != (V.length : Int)) = false := by simp; omega
                have b2 : ((U.length : Int) == (V.length : Int)) = true := by simp; omega
                have h58 := order58 U V w
                have H58 := Lib.hid h58
                have HD := Lib.hid (show cmpD a b = cmpB U V by unfold cmpD; rw [← HU.out, ← HV.out, if_neg (by simp [hl])])
                clear h58 hl
                go_wp2_with fail
                (with_reducible refine (H58.out).mono ?_)
                rintro e w1 ⟨rfl, rfl⟩
                go_wp2_with fail
                go_ret
                exact ⟨by rw [HD.out]; rfl, rfl⟩
              · have b1 : ((U.length : Int) != (V.length : Int)) = true := by simp; omega
                have b2 : ((U.length : Int) == (V.length : Int)) = false := by simp; omega
                have h57 := orderInts57 U.length V.length w
                have H57 := Lib.hid h57
                have HD := Lib.hid (show cmpD a b = cmpN U.length V.length by unfold cmpD; rw [← HU.out, ← HV.out, if_pos hl])
                clear h57 hl
                go_wp2_with fail
                (with_reducible refine (H57.out).mono ?_)
                rintro e w1 ⟨rfl, rfl⟩
                go_wp2_with fail
                go_ret
                exact ⟨by rw [HD.out]; rfl, rfl⟩

set_option maxHeartbeats 2000000 in
theorem qualifiers63 (a b : Bs) (w : World) : Calls Tryz.prog 63 #[.string (str a), .string (str b)] w fun e w' => e = .returned (.int .i64 (cmpQ a b)) ∧ Below w.heap.size w w' := by
  have H1 := Lib.hid (keyword64 a w)
  have H2 := Lib.hid fun w => keyword64 b w
  have H3 := Lib.hid fun w => orderInts57 (kw a) (kw b) w
  have H4 := Lib.hid fun w => order58 a b w
  go_enter Tryz.func63, Tryz.ntmps63
  go_wp2_with fail
  (with_reducible refine (H1.out).mono ?_)
  rintro e w1 ⟨rfl, hB1⟩
  go_wp2_with fail
  (with_reducible refine (H2.out _).mono ?_)
  rintro e w2 ⟨rfl, hB2⟩
  have HB := Lib.hid (hB1.trans (hB2.mono hB1.size))
  clear hB1 hB2
  by_cases hk : kw a = kw b
  · have b1 : ((kw a : Int) != (kw b : Int)) = false := by simp; omega
    have HD := Lib.hid (show cmpQ a b = cmpB a b by unfold cmpQ; rw [if_neg (by simp [hk])])
    clear hk
    go_wp2_with fail
    (with_reducible refine (H4.out _).mono ?_)
    rintro e w3 ⟨rfl, rfl⟩
    go_wp2_with fail
    go_ret
    exact ⟨by rw [HD.out]; rfl, HB.out⟩
  · have b1 : ((kw a : Int) != (kw b : Int)) = true := by simp; omega
    have HD := Lib.hid (show cmpQ a b = cmpN (kw a) (kw b) by unfold cmpQ; rw [if_pos hk])
    clear hk
    go_wp2_with fail
    (with_reducible refine (H3.out _).mono ?_)
    rintro e w3 ⟨rfl, rfl⟩
    go_wp2_with fail
    go_ret
    exact ⟨by rw [HD.out]; rfl, HB.out⟩
end Go.Proofs.Tz
