/- Contracts of the reference's small functions: digits, plain bytes, orders, keywords. -/
import Derived.Test.YtcehboopgjpfcaaGreatDoorF5
import Derived.Test.YtcehboopgjpfcaaGreatDoorL5
namespace Go.Proofs.Tz
open Go.RowKit Mv

theorem isDigit53 (c : UInt8) (w : World) : Calls Tryz.prog 53 #[.int .u8 (c.toNat : Int)] w fun e w' => e = .returned (.bool (isDig c)) ∧ w = w' := by
  have hi := isDig_iff c
  by_cases h1 : 48 ≤ c.toNat
  · have b1 : decide ((c.toNat : Int) ≥ 48) = true := by simp; omega
    by_cases h2 : c.toNat ≤ 57
    · have hd : isDig c = true := hi.2 ⟨h1, h2⟩
      have b2 : decide ((c.toNat : Int) ≤ 57) = true := by simp; omega
      rw [hd]
      clear hd hi h1 h2
      go_enter Tryz.func53, Tryz.ntmps53
      go_wp2_with fail
      go_ret
      exact ⟨rfl, rfl⟩
    · have hd : isDig c = false := by cases h : isDig c <;> first | rfl | (have := hi.1 h; omega)
      have b2 : decide ((c.toNat : Int) ≤ 57) = false := by simp; omega
      rw [hd]
      clear hd hi h1 h2
      go_enter Tryz.func53, Tryz.ntmps53
      go_wp2_with fail
      go_ret
      exact ⟨rfl, rfl⟩
  · have hd : isDig c = false := by cases h : isDig c <;> first | rfl | (have := hi.1 h; omega)
    have b1 : decide ((c.toNat : Int) ≥ 48) = false := by simp; omega
    rw [hd]
    clear hd hi h1
    go_enter Tryz.func53, Tryz.ntmps53
    go_wp2_with fail
    go_ret
    exact ⟨rfl, rfl⟩

theorem orderInts57 (a b : Nat) (w : World) : Calls Tryz.prog 57 #[.int .i64 (a : Int), .int .i64 (b : Int)] w fun e w' => e = .returned (.int .i64 (cmpN a b)) ∧ w = w' := by
  by_cases h1 : a < b
  · have b1 : decide (a < b) = true := by simp [h1]
    have hc : cmpN a b = -1 := by unfold cmpN; rw [if_pos h1]
    rw [hc]
    clear hc h1
    go_enter Tryz.func57, Tryz.ntmps57
    go_wp2_with fail
    go_ret
    exact ⟨rfl, rfl⟩
  · have b1 : decide (a < b) = false := by simp; omega
    by_cases h2 : b < a
    · have b2 : decide (b < a) = true := by simp [h2]
      have hc : cmpN a b = 1 := by unfold cmpN; rw [if_neg h1, if_pos h2]
      rw [hc]
      clear hc h1 h2
      go_enter Tryz.func57, Tryz.ntmps57
      go_wp2_with fail
      go_ret
      exact ⟨rfl, rfl⟩
    · have b2 : decide (b < a) = false := by simp; omega
      have hc : cmpN a b = 0 := by unfold cmpN; rw [if_neg h1, if_neg h2]
      rw [hc]
      clear hc h1 h2
      go_enter Tryz.func57, Tryz.ntmps57
      go_wp2_with fail
      go_ret
      exact ⟨rfl, rfl⟩

theorem order58 (a b : Bs) (w : World) : Calls Tryz.prog 58 #[.string (str a), .string (str b)] w fun e w' => e = .returned (.int .i64 (cmpB a b)) ∧ w = w' := by
  have htl := str_toList
  have hbl := bytesLess_eq
  by_cases h1 : bless a b = true
  · have hc : cmpB a b = -1 := by unfold cmpB; rw [if_pos h1]
    rw [hc]
    clear hc
    go_enter Tryz.func58, Tryz.ntmps58
    go_wp2_with fail
    go_ret
    exact ⟨rfl, rfl⟩
  · replace h1 : bless a b = false := by simpa using h1
    by_cases h2 : bless b a = true
    · have hc : cmpB a b = 1 := by unfold cmpB; rw [h1, h2]; rfl
      have m1 : (a == b) = false := by
        simp only [beq_eq_false_iff_ne, ne_eq]
        intro e; rw [e, bless_irrefl] at h2; cases h2
      rw [hc]
      clear hc
      go_enter Tryz.func58, Tryz.ntmps58
      go_wp2_with fail
      go_ret
      exact ⟨rfl, rfl⟩
    · replace h2 : bless b a = false := by simpa using h2
      have hc : cmpB a b = 0 := by unfold cmpB; rw [h1, h2]; rfl
      obtain rfl := bless_total h1 h2
      have m1 : (a == a) = true := by simp
      rw [hc]
      clear hc
      go_enter Tryz.func58, Tryz.ntmps58
      go_wp2_with fail
      go_ret
      exact ⟨rfl, rfl⟩

set_option maxHeartbeats 1000000 in
theorem allDigits60 (l : Bs) (hl : l.length ≤ 1000000000) (w : World) :
    Calls Tryz.prog 60 #[.string (str l)] w fun e w' => e = .returned (.bool (allDig l)) ∧ w = w' := by
  have hsl : (str l).size = l.length := str_size l
  go_enter Tryz.func60, Tryz.ntmps60
  go_wp2_with fail
  go_loop [3] (fun x => ∃ i : Nat, x = .int .i64 (i : Int) ∧ i ≤ l.length ∧ Hid (∀ c ∈ l.take i, isDig c = true)) (fun x => l.length - (intOf x).toNat)
  case atStart => exact ⟨0, rfl, Nat.zero_le _, Lib.hid (by simp)⟩
  case round =>
    obtain ⟨i, rfl, hi, H⟩ := hrel
    by_cases hil : i < l.length
    · obtain ⟨c, hc⟩ : ∃ c, l[i]? = some c := ⟨_, List.getElem?_eq_getElem hil⟩
      have q2 := str_index hc
      have HC := Lib.hid hc
      have hcall := isDigit53 c w
      have HCL := Lib.hid hcall
      clear hc hcall
      unfold byt at q2
      cases hd : isDig c with
      | false =>
        have hf : allDig l = false := by
          cases h : allDig l
          · rfl
          · have := ((allDig_iff l).1 h).2 c (List.mem_of_getElem? HC.out)
            rw [hd] at this; cases this
        have HF := Lib.hid hf
        rw [hd] at HCL
        clear hf hd
        go_wp2_with fail
        (with_reducible refine (HCL.out).mono ?_)
        rintro e w1 ⟨rfl, rfl⟩
        go_wp2_with fail
        go_ret
        exact ⟨by rw [HF.out]; rfl, rfl⟩
      | true =>
        have HN := Lib.hid (take_all H.out HC.out hd)
        rw [hd] at HCL
        clear hd
        go_wp2_with fail
        (with_reducible refine (HCL.out).mono ?_)
        rintro e w1 ⟨rfl, rfl⟩
        go_wp2_with fail
        go_round
        case rel => exact ⟨i + 1, by go_num, by omega, HN⟩
        case measure => simp [intOf]; omega
    · have hie : i = l.length := by omega
      have hd : allDig l = decide (0 < l.length) := by
        cases l with
        | nil => rfl
        | cons a r =>
          have : allDig (a :: r) = true := (allDig_iff _).2 ⟨by simp, fun c hc => H.out c (by rw [List.take_of_length_le (by omega)]; exact hc)⟩
          rw [this]; simp
      have HD := Lib.hid hd
      clear hd
      go_wp2_with fail
      go_ret
      exact ⟨by rw [HD.out]; simp, rfl⟩

def isAsc (l : Bs) : Bool := l.all fun c => decide (c.toNat < 128)
theorem isAsc_iff (l : Bs) : isAsc l = true ↔ Asc l := by
  unfold isAsc Asc
  simp [List.all_eq_true]
set_option maxHeartbeats 1000000 in
theorem ascii40 (l : Bs) (hl : l.length ≤ 1000000000) (w : World) :
    Calls Tryz.prog 40 #[.string (str l)] w fun e w' => e = .returned (.bool (isAsc l)) ∧ w = w' := by
  have hsl : (str l).size = l.length := str_size l
  go_enter Tryz.func40, Tryz.ntmps40
  go_wp2_with fail
  go_loop [3] (fun x => ∃ i : Nat, x = .int .i64 (i : Int) ∧ i ≤ l.length ∧ Hid (∀ c ∈ l.take i, c.toNat < 128)) (fun x => l.length - (intOf x).toNat)
  case atStart => exact ⟨0, rfl, Nat.zero_le _, Lib.hid (by simp)⟩
  case round =>
    obtain ⟨i, rfl, hi, H⟩ := hrel
    by_cases hil : i < l.length
    · obtain ⟨c, hc⟩ : ∃ c, l[i]? = some c := ⟨_, List.getElem?_eq_getElem hil⟩
      have q2 := str_index hc
      have HC := Lib.hid hc
      clear hc
      unfold byt at q2
      by_cases h1 : 127 < c.toNat
      · have hf : isAsc l = false := by
          cases h : isAsc l
          · rfl
          · have := (isAsc_iff l).1 h c (List.mem_of_getElem? HC.out); omega
        have HF := Lib.hid hf
        have b1 : decide ((c.toNat : Int) > 127) = true := by simp; omega
        clear hf h1
        go_wp2_with fail
        go_ret
        exact ⟨by rw [HF.out]; rfl, rfl⟩
      · have HN := Lib.hid (take_all H.out HC.out (show c.toNat < 128 by omega))
        have b1 : decide ((c.toNat : Int) > 127) = false := by simp; omega
        clear h1
        go_wp2_with fail
        go_round
        case rel => exact ⟨i + 1, by go_num, by omega, HN⟩
        case measure => simp [intOf]; omega
    · have hd : isAsc l = true := (isAsc_iff l).2 fun c hc => H.out c (by rw [List.take_of_length_le (by omega)]; exact hc)
      have HD := Lib.hid hd
      clear hd
      go_wp2_with fail
      go_ret
      exact ⟨by rw [HD.out]; rfl, rfl⟩

def smallB (s : Bs) : Bool := decide (s = []) || isLow (s.headD 0)
theorem isLow_iff (c : UInt8) : isLow c = true ↔ 97 ≤ c.toNat ∧ c.toNat ≤ 122 := by
  unfold isLow
  simp only [Bool.and_eq_true, decide_eq_true_eq]
  exact ⟨fun h => ⟨h.1, h.2⟩, fun h => ⟨h.1, h.2⟩⟩
set_option maxHeartbeats 1000000 in
theorem letters65 (l : Bs) (w : World) : Calls Tryz.prog 65 #[.string (str l)] w fun e w' => e = .returned (.bool (smallB l)) ∧ w = w' := by
  have htl := str_toList
  cases l with
  | nil =>
    go_enter Tryz.func65, Tryz.ntmps65
    go_wp2_with fail
    go_ret
    exact ⟨rfl, rfl⟩
  | cons c r =>
    have q3 : ∀ h : 0 < (str (c :: r)).size, (str (c :: r))[0]'h = c := fun h => str_get (l := c :: r) (i := 0) (c := c) rfl h
    have hi := isLow_iff c
    have hsz : (str (c :: r)).size = r.length + 1 := by rw [str_size]; rfl
    have hse : smallB (c :: r) = isLow c := by unfold smallB; simp
    rw [hse]
    have m0 : ((c :: r) == ([] : Bs)) = false := by simp
    by_cases h1 : 97 ≤ c.toNat
    · have b1 : decide ((c.toNat : Int) ≥ 97) = true := by simp; omega
      by_cases h2 : c.toNat ≤ 122
      · have b2 : decide ((c.toNat : Int) ≤ 122) = true := by simp; omega
        rw [hi.2 ⟨h1, h2⟩]
        clear hi h1 h2 hse
        go_enter Tryz.func65, Tryz.ntmps65
        go_wp2_with fail
        go_ret
        exact ⟨rfl, rfl⟩
      · have b2 : decide ((c.toNat : Int) ≤ 122) = false := by simp; omega
        have hd : isLow c = false := by cases h : isLow c <;> first | rfl | (have := hi.1 h; omega)
        rw [hd]
        clear hi h1 h2 hse hd
        go_enter Tryz.func65, Tryz.ntmps65
        go_wp2_with fail
        go_ret
        exact ⟨rfl, rfl⟩
    · have b1 : decide ((c.toNat : Int) ≥ 97) = false := by simp; omega
      have hd : isLow c = false := by cases h : isLow c <;> first | rfl | (have := hi.1 h; omega)
      rw [hd]
      clear hi h1 hse hd
      go_enter Tryz.func65, Tryz.ntmps65
      go_wp2_with fail
      go_ret
      exact ⟨rfl, rfl⟩

set_option maxHeartbeats 2000000 in
theorem keyword64 (q : Bs) (w : World) : Calls Tryz.prog 64 #[.string (str q)] w fun e w' => e = .returned (.int .i64 (kw q : Nat)) ∧ Below w.heap.size w w' := by
  have htl := str_toList
  obtain ⟨wz, hwz⟩ : ∃ x, x = w.alloc (Obj.cells (svs kwl).toArray 9) := ⟨_, rfl⟩
  have hA : Arr wz w.heap.size 9 (svs kwl) := by rw [hwz]; exact Arr.new _ _ _
  have HB := Lib.hid (show Below w.heap.size w wz by rw [hwz]; exact (Below.refl _ _).alloc (Nat.le_refl _) _)
  have hwz2 : w.alloc (Obj.cells #[Value.string ⟨#[97, 108, 112, 104, 97]⟩, Value.string ⟨#[98, 101, 116, 97]⟩, Value.string ⟨#[109, 105, 108, 101, 115, 116, 111, 110, 101]⟩, Value.string ⟨#[114, 99]⟩, Value.string ⟨#[115, 110, 97, 112, 115, 104, 111, 116]⟩, Value.string ⟨#[]⟩, Value.string ⟨#[115, 112]⟩] 9) = wz := by rw [hwz]; rfl
  have HA := Lib.hid hA
  clear hA hwz
  go_enter Tryz.func64, Tryz.ntmps64
  go_wp2_with fail
  clear hwz2
  go_loop [4] (fun x => ∃ i : Nat, x = .int .i64 (i : Int) ∧ i ≤ 7 ∧ Hid (∀ x ∈ kwl.take i, x ≠ q)) (fun x => 7 - (intOf x).toNat)
  case atStart => exact ⟨0, rfl, Nat.zero_le _, Lib.hid (by simp)⟩
  case round =>
    obtain ⟨i, rfl, hi, H⟩ := hrel
    by_cases hil : i < 7
    · obtain ⟨x, hx⟩ : ∃ x, kwl[i]? = some x := ⟨_, List.getElem?_eq_getElem hil⟩
      have hc : wz.cell? ⟨w.heap.size, i, none⟩ = some (.string (str x)) := HA.out.cell (by rw [svs, List.getElem?_map, hx]; rfl)
      have HX := Lib.hid hx
      clear hx
      by_cases he : x = q
      · subst he
        have m1 : (x == x) = true := by simp
        go_wp2_with fail
        go_ret
        exact ⟨by rw [kw_at HX.out]; rfl, HB.out⟩
      · have m1 : (x == q) = false := by simp [he]
        have HN := Lib.hid (take_ne H.out HX.out he)
        clear he
        go_wp2_with fail
        go_round
        case rel => exact ⟨i + 1, by go_num, by omega, HN⟩
        case measure => simp [intOf]; omega
    · have hie : i = 7 := by omega
      subst hie
      go_wp2_with fail
      go_ret
      exact ⟨by rw [kw_none (q := q) (fun x hx => H.out x (by rw [List.take_of_length_le (by decide)]; exact hx))]; rfl, HB.out⟩
end Go.Proofs.Tz
