/- Contracts of the reference's TokenOrder, TokenNull, mavenValue (printed by gen_s6.py). -/
import Derived.Test.YtcehboopgjpfcaaGreatDoorS5
namespace Go.Proofs.Tz
open Go.RowKit Mv

set_option maxHeartbeats 4000000 in
theorem order61 (t : Tok) (hp : pOk t.p) (hl : t.v.length ≤ 1000000) (w : World) :
    Calls Tryz.prog 61 #[tagg t] w fun e w' => e = .returned (.tuple #[.int .i64 (((qord t).getD 0 : Nat) : Int), .bool (qord t).isSome]) ∧ Below w.heap.size w w' := by
  obtain ⟨q, hq⟩ : ∃ q, q = qord t := ⟨_, rfl⟩
  rw [← hq]
  obtain ⟨p, v, n⟩ := t
  have hl : v.length ≤ 1000000 := hl
  have htl := str_toList
  unfold tagg sv
  have HB := Lib.hid (show Below w.heap.size w (w.alloc (Obj.cells #[Value.string (str p), Value.string (str v), Value.bool n] 40)) from (Below.refl _ _).alloc (Nat.le_refl _) _)
  have H60 := Lib.hid fun w => allDigits60 v (by omega) w
  have HQ := Lib.hid hq
  clear hq
  have hp : p = [] ∨ p = [46] ∨ p = [45] := hp
  rcases hp with rfl | rfl | rfl
  all_goals
    go_enter Tryz.func61, Tryz.ntmps61
    go_wp2_with fail
    (with_reducible refine (H60.out _).mono ?_)
    rintro e w1 ⟨rfl, rfl⟩
    cases hd : allDig v with
    | false =>
      go_wp2_with fail
      go_ret2
      exact ⟨by rw [HQ.out]; simp [qord, hd], HB.out⟩
    | true =>
      go_wp2_with fail
      go_ret2
      exact ⟨by rw [HQ.out]; simp [qord, hd], HB.out⟩

set_option maxHeartbeats 4000000 in
theorem null47 (t : Tok) (hp : pOk t.p) (w : World) :
    Calls Tryz.prog 47 #[tagg t] w fun e w' => e = .returned (.tuple #[tagg ((tnull t).getD ⟨[], [], false⟩), .bool (tnull t).isSome]) ∧ Below w.heap.size w w' := by
  obtain ⟨p, v, n⟩ := t
  have htl := str_toList
  have hp : p = [] ∨ p = [46] ∨ p = [45] := hp
  have hBe : ∀ a b : Obj, Below w.heap.size w ((w.alloc a).alloc b) := fun a b => ((Below.refl w.heap.size w).alloc (Nat.le_refl _) a).alloc (by rw [size_alloc]; omega) b
  have HBE := Lib.hid hBe
  clear hBe
  rcases hp with rfl | rfl | rfl
  · unfold tagg sv
    go_enter Tryz.func47, Tryz.ntmps47
    go_wp2_with fail
    refine bodyPost_ret (v := .tuple #[.agg #[.string ⟨#[]⟩, .string ⟨#[]⟩, .bool false], .bool false]) (by simp [results, Tryz.results47, go_sem]) rfl ⟨rfl, ?_⟩
    exact HBE.out _ _
  · by_cases hv : v = sSp
    · subst hv
      unfold tagg sv
      go_enter Tryz.func47, Tryz.ntmps47
      go_wp2_with fail
      refine bodyPost_ret (v := .tuple #[.agg #[.string ⟨#[46]⟩, .string ⟨#[]⟩, .bool true], .bool true]) (by simp [results, Tryz.results47, go_sem]; rfl) rfl ⟨rfl, ?_⟩
      exact HBE.out _ _
    · have m1 : (v == [115, 112]) = false := by simpa [sSp] using hv
      have he : (⟨[46], if v = sSp then [] else [48], true⟩ : Tok) = ⟨[46], [48], true⟩ := by rw [if_neg hv]
      have hn : tnull ⟨[46], v, n⟩ = some ⟨[46], [48], true⟩ := by rw [tnull, if_pos rfl, he]
      rw [hn]
      unfold tagg sv
      clear hv he hn
      go_enter Tryz.func47, Tryz.ntmps47
      go_wp2_with fail
      refine bodyPost_ret (v := .tuple #[.agg #[.string ⟨#[46]⟩, .string ⟨#[48]⟩, .bool true], .bool true]) (by simp [results, Tryz.results47, go_sem]; rfl) rfl ⟨rfl, ?_⟩
      exact HBE.out _ _
  · unfold tagg sv
    go_enter Tryz.func47, Tryz.ntmps47
    go_wp2_with fail
    refine bodyPost_ret (v := .tuple #[.agg #[.string ⟨#[45]⟩, .string ⟨#[]⟩, .bool true], .bool true]) (by simp [results, Tryz.results47, go_sem]; rfl) rfl ⟨rfl, ?_⟩
    exact HBE.out _ _

theorem strip_cons48 (c : UInt8) (r : Bs) : strip (48 :: c :: r) = strip (c :: r) := by rw [strip, if_pos rfl]
theorem strip_stop {c : UInt8} {r : Bs} (h : c ≠ 48) : strip (c :: r) = c :: r := by
  cases r with
  | nil => rfl
  | cons d r => rw [strip, if_neg h]

set_option maxHeartbeats 8000000 in
theorem value54 (s : Bs) (m : Bool) (hl : s.length ≤ 1000000) (w : World) : Calls Tryz.prog 54 #[.string (str s), .bool m] w fun e w' => e = .returned (.string (str (nv s m))) ∧ w = w' := by
  have htl := str_toList
  have hss := str_size
  obtain ⟨R, hR⟩ : ∃ R, R = nv s m := ⟨_, rfl⟩
  rw [← hR]
  by_cases h0 : s = []
  · subst h0
    rw [nv, if_pos rfl] at hR
    subst hR
    go_enter Tryz.func54, Tryz.ntmps54
    go_wp2_with fail
    go_ret
    exact ⟨rfl, rfl⟩
  · have m0 : s.isEmpty = false := by simpa using h0
    have h60 := fun w => allDigits60 s (by omega) w
    by_cases hd : allDig s = true
    · rw [nv, if_neg h0, if_pos hd] at hR
      rw [hd] at h60
      have H60 := Lib.hid h60
      have HR := Lib.hid hR
      clear h60 hR hd
      go_enter Tryz.func54, Tryz.ntmps54
      go_wp2_with fail
      (with_reducible refine (H60.out _).mono ?_)
      rintro e w1 ⟨rfl, rfl⟩
      go_wp2_with fail
      go_loop [0] (fun x => ∃ t : Bs, x = .string (str t) ∧ t.length ≤ s.length ∧ t ≠ [] ∧ Hid (strip t = R)) (fun x => match x with | .string s => s.size | _ => 0)
      case atStart => exact ⟨s, rfl, Nat.le_refl _, h0, Lib.hid HR.out.symm⟩
      case round =>
        obtain ⟨t, rfl, htl2, hne, H⟩ := hrel
        obtain ⟨c, r, hc⟩ := List.exists_cons_of_ne_nil hne
        have q3 : ∀ h : 0 < (str t).size, (str t)[0]'h = c := fun h => str_get (l := t) (i := 0) (c := c) (by rw [hc]; rfl) h
        have b00 : 0 < t.length := by rw [hc]; simp
        by_cases h1 : 1 < t.length
        · by_cases h48 : c = 48
          · have hdr : t.drop 1 = r := by rw [hc]; rfl
            have hrn : t.drop 1 ≠ [] := fun e => by
              have := congrArg List.length e
              rw [List.length_drop] at this; simp at this; omega
            have HN : Hid (strip (t.drop 1) = R) := Lib.hid (by
              rw [hdr, ← H.out, hc, h48]
              obtain ⟨c2, r2, hr2⟩ := List.exists_cons_of_ne_nil (show r ≠ [] from by rw [← hdr]; exact hrn)
              rw [hr2, strip_cons48])
            have hsl : (str t).extract 1 t.length = str (t.drop 1) := by rw [str_extract, List.take_length]
            have hrl : (t.drop 1).length < t.length := by rw [List.length_drop]; omega
            have q4 : ∀ h : 0 < (str t).size, (((str t)[0]'h).toNat : Int) = 48 := fun h => by rw [q3 h, h48]; rfl
            clear h48 hc hdr H q3 HR
            go_wp2_with fail
            go_round
            case rel => exact ⟨t.drop 1, by first | rfl | simp, by omega, hrn, HN⟩
            case measure => simp [str_size]; omega
          · have b2 : ((c.toNat : Int) == 48) = false := by
              simp only [beq_eq_false_iff_ne, ne_eq]
              intro e
              exact h48 (UInt8.toNat_inj.1 (by show c.toNat = 48; omega))
            have hst : t = R := by rw [← H.out, hc, strip_stop h48]
            have HST := Lib.hid hst
            clear h48 hc H hst HR
            go_wp2_with fail
            go_ret
            exact ⟨by rw [HST.out]; rfl, rfl⟩
        · have hst : t = R := by
            rw [← H.out, hc]
            have : r = [] := by
              cases r with
              | nil => rfl
              | cons d r => rw [hc] at h1; simp at h1
            rw [this]; rfl
          have HST := Lib.hid hst
          have b1 : decide ((t.length : Int) > 1) = false := by simp; omega
          clear hc H hst HR q3
          go_wp2_with fail
          go_ret
          exact ⟨by rw [HST.out]; rfl, rfl⟩
    · have hd0 : allDig s = false := by simpa using hd
      rw [nv, if_neg h0, if_neg hd] at hR
      rw [hd0] at h60
      have H60 := Lib.hid h60
      clear h60
      by_cases c0 : s = sCr
      · rw [if_pos c0] at hR
        subst c0
        subst hR
        unfold sCr at *
        clear hd hd0 h0 m0
        go_enter Tryz.func54, Tryz.ntmps54
        go_wp2_with fail
        (with_reducible refine (H60.out _).mono ?_)
        rintro e w1 ⟨rfl, rfl⟩
        go_wp2_with fail
        all_goals
          go_ret
          exact ⟨rfl, rfl⟩
      · have m1 : (s == [99, 114]) = false := by simpa [sCr] using c0
        by_cases c1 : s = sGa
        · rw [if_neg c0, if_pos (.inl c1)] at hR
          subst c1
          subst hR
          unfold sGa at *
          clear hd hd0 h0 m0
          go_enter Tryz.func54, Tryz.ntmps54
          go_wp2_with fail
          (with_reducible refine (H60.out _).mono ?_)
          rintro e w1 ⟨rfl, rfl⟩
          go_wp2_with fail
          all_goals
            go_ret
            exact ⟨rfl, rfl⟩
        · have m2 : (s == [103, 97]) = false := by simpa [sGa] using c1
          by_cases c2 : s = sFinal
          · rw [if_neg c0, if_pos (.inr (.inl c2))] at hR
            subst c2
            subst hR
            unfold sFinal at *
            clear hd hd0 h0 m0
            go_enter Tryz.func54, Tryz.ntmps54
            go_wp2_with fail
            (with_reducible refine (H60.out _).mono ?_)
            rintro e w1 ⟨rfl, rfl⟩
            go_wp2_with fail
            all_goals
              go_ret
              exact ⟨rfl, rfl⟩
          · have m3 : (s == [102, 105, 110, 97, 108]) = false := by simpa [sFinal] using c2
            by_cases c3 : s = sRelease
            · rw [if_neg c0, if_pos (.inr (.inr c3))] at hR
              subst c3
              subst hR
              unfold sRelease at *
              clear hd hd0 h0 m0
              go_enter Tryz.func54, Tryz.ntmps54
              go_wp2_with fail
              (with_reducible refine (H60.out _).mono ?_)
              rintro e w1 ⟨rfl, rfl⟩
              go_wp2_with fail
              all_goals
                go_ret
                exact ⟨rfl, rfl⟩
            · have m4 : (s == [114, 101, 108, 101, 97, 115, 101]) = false := by simpa [sRelease] using c3
              rw [if_neg c0, if_neg (by rintro (e | e | e); exact c1 e; exact c2 e; exact c3 e)] at hR
              cases m with
              | false =>
                have hRs : R = s := by rw [hR]; simp
                clear hR
                subst R
                clear hd hd0 h0 c0 c1 c2 c3
                go_enter Tryz.func54, Tryz.ntmps54
                go_wp2_with fail
                (with_reducible refine (H60.out _).mono ?_)
                rintro e w1 ⟨rfl, rfl⟩
                go_wp2_with fail
                all_goals
                  go_ret
                  exact ⟨by first | rfl | simp [*], rfl⟩
              | true =>
                by_cases e0 : s = [97]
                · rw [if_pos ⟨rfl, e0⟩] at hR
                  subst e0
                  subst hR
                  clear hd hd0 h0 c0 c1 c2 c3 m0 m1 m2 m3 m4
                  go_enter Tryz.func54, Tryz.ntmps54
                  go_wp2_with fail
                  (with_reducible refine (H60.out _).mono ?_)
                  rintro e w1 ⟨rfl, rfl⟩
                  go_wp2_with fail
                  all_goals
                    go_ret
                    exact ⟨rfl, rfl⟩
                · have k0 : (s == [97]) = false := by simpa using e0
                  by_cases e1 : s = [98]
                  · rw [if_neg (fun h => e0 h.2), if_pos ⟨rfl, e1⟩] at hR
                    subst e1
                    subst hR
                    clear hd hd0 h0 c0 c1 c2 c3 m0 m1 m2 m3 m4 e0 k0
                    go_enter Tryz.func54, Tryz.ntmps54
                    go_wp2_with fail
                    (with_reducible refine (H60.out _).mono ?_)
                    rintro e w1 ⟨rfl, rfl⟩
                    go_wp2_with fail
                    all_goals
                      go_ret
                      exact ⟨rfl, rfl⟩
                  · have k1 : (s == [98]) = false := by simpa using e1
                    by_cases e2 : s = [109]
                    · rw [if_neg (fun h => e0 h.2), if_neg (fun h => e1 h.2), if_pos ⟨rfl, e2⟩] at hR
                      subst e2
                      subst hR
                      clear hd hd0 h0 c0 c1 c2 c3 m0 m1 m2 m3 m4 e0 k0 e1 k1
                      go_enter Tryz.func54, Tryz.ntmps54
                      go_wp2_with fail
                      (with_reducible refine (H60.out _).mono ?_)
                      rintro e w1 ⟨rfl, rfl⟩
                      go_wp2_with fail
                      all_goals
                        go_ret
                        exact ⟨rfl, rfl⟩
                    · have k2 : (s == [109]) = false := by simpa using e2
                      rw [if_neg (fun h => e0 h.2), if_neg (fun h => e1 h.2), if_neg (fun h => e2 h.2)] at hR
                      subst hR
                      clear hd hd0 h0 c0 c1 c2 c3 e0 e1 e2
                      go_enter Tryz.func54, Tryz.ntmps54
                      go_wp2_with fail
                      (with_reducible refine (H60.out _).mono ?_)
                      rintro e w1 ⟨rfl, rfl⟩
                      go_wp2_with fail
                      all_goals
                        go_ret
                        exact ⟨rfl, rfl⟩
end Go.Proofs.Tz
