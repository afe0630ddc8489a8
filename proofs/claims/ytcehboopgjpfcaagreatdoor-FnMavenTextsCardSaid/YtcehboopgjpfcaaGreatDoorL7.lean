/- Contracts of the helpers of the statements: numbered, short, tails. -/
import Derived.Test.YtcehboopgjpfcaaGreatDoorLA
import Derived.Test.YtcehboopgjpfcaaGreatDoorL5
namespace Go.Proofs.Mv
theorem strip_self {q : Bs} (h : q.length ≤ 1 ∨ q.head? ≠ some 48) : strip q = q := by
  match q, h with
  | [], _ => rfl
  | [c], _ => rfl
  | c :: d :: r, h =>
    have hc : c ≠ 48 := by
      rcases h with h | h
      · simp at h
      · intro e; exact h (by simp [e])
    simp [strip, hc]
theorem dec_of {q : Bs} (hd : allDig q = true) (h : q.length ≤ 1 ∨ q.head? ≠ some 48) : q = dec (dval q) := by
  have h1 := (allDig_iff q).1 hd
  rw [← strip_dec q h1.1 h1.2, strip_self h]
/-- Numbers, each with a point behind. -/
def dotted (l : List Nat) : Bs := l.flatMap fun n => dec n ++ [46]
theorem dotted_snoc (l : List Nat) (n : Nat) : dotted (l ++ [n]) = dotted l ++ (dec n ++ [46]) := by simp [dotted]
theorem dotted_last : ∀ (l : List Nat) (n : Nat), dotted l ++ dec n = numTxt (l ++ [n])
  | [], n => by simp [dotted, numTxt_one]
  | [m], n => by simp [dotted, numTxt_cons, numTxt_one]
  | m :: k :: r, n => by
    have := dotted_last (k :: r) n
    rw [List.cons_append] at this
    rw [List.cons_append, List.cons_append, numTxt_cons, ← this]
    simp [dotted]
def Numb (most : Nat) (l : Bs) : Prop := ∃ ns : List Nat, ns ≠ [] ∧ l = numTxt ns ∧ ns.length ≤ most ∧ ∀ n ∈ ns, n < 10 ^ 15
end Go.Proofs.Mv
namespace Go.Proofs.Tz
open Go.RowKit Mv

def NumbPost (l : Bs) (most : Nat) (w : World) (e : Ending) (w' : World) : Prop := ∃ b : Bool, e = .returned (.bool b) ∧ (b = true → Numb most l) ∧ w = w'
/-- Where numbered stands: what is cut off, and where it goes on. -/
def NumbAt (l : Bs) (n fr i : Nat) : Prop :=
  (i ≤ l.length ∧ fr ≤ i ∧ ∃ done : List Nat, n = done.length + 1 ∧ l.take fr = dotted done ∧ (∀ m ∈ done, m < 10 ^ 15)) ∨ (i = l.length + 1 ∧ ∃ ns : List Nat, ns ≠ [] ∧ l = numTxt ns ∧ n = ns.length ∧ ∀ m ∈ ns, m < 10 ^ 15)
theorem numbAt_cut {l : Bs} {n fr i : Nat} (h : NumbAt l n fr i) (hi : i < l.length) (hd : l[i]? = some 46) (hq : allDig ((l.take i).drop fr) = true) (h0 : ((l.take i).drop fr).length ≤ 1 ∨ ((l.take i).drop fr).head? ≠ some 48) (h15 : ((l.take i).drop fr).length ≤ 15) :
    NumbAt l (n + 1) (i + 1) (i + 1) := by
  rcases h with ⟨h1, h2, done, h3, h4, h5⟩ | ⟨h1, _⟩
  · refine .inl ⟨by omega, Nat.le_refl _, done ++ [dval ((l.take i).drop fr)], by simp [h3], ?_, fun m hm => ?_⟩
    · rw [take_snoc hd, dotted_snoc, ← dec_of hq h0, ← h4]
      have e : l.take i = l.take fr ++ (l.take i).drop fr := by
        have := (List.take_append_drop fr (l.take i)).symm
        rwa [List.take_take, Nat.min_eq_left h2] at this
      rw [← List.append_assoc, ← e]
    · rcases List.mem_append.1 hm with hm | hm
      · exact h5 m hm
      · simp at hm; subst hm
        exact Nat.lt_of_lt_of_le (dval_lt _ ((allDig_iff _).1 hq).2) (Nat.pow_le_pow_right (by decide) h15)
  · omega
theorem numbAt_end {l : Bs} {n fr : Nat} (h : NumbAt l n fr l.length) (hq : allDig ((l.take l.length).drop fr) = true) (h0 : ((l.take l.length).drop fr).length ≤ 1 ∨ ((l.take l.length).drop fr).head? ≠ some 48) (h15 : ((l.take l.length).drop fr).length ≤ 15) :
    NumbAt l n (l.length + 1) (l.length + 1) := by
  rcases h with ⟨h1, h2, done, h3, h4, h5⟩ | ⟨h1, _⟩
  · refine .inr ⟨rfl, done ++ [dval ((l.take l.length).drop fr)], by simp, ?_, by simp [h3], fun m hm => ?_⟩
    · rw [← dotted_last, ← dec_of hq h0, ← h4]
      have := (List.take_append_drop fr (l.take l.length)).symm
      rw [List.take_take, Nat.min_eq_left h2] at this
      rw [← this, List.take_length]
    · rcases List.mem_append.1 hm with hm | hm
      · exact h5 m hm
      · rw [List.mem_singleton] at hm; subst hm
        exact Nat.lt_of_lt_of_le (dval_lt _ ((allDig_iff _).1 hq).2) (Nat.pow_le_pow_right (by decide) h15)
  · omega
theorem numbAt_skip {l : Bs} {n fr i : Nat} (h : NumbAt l n fr i) (hi : i < l.length) : NumbAt l n fr (i + 1) := by
  rcases h with ⟨h1, h2, h3⟩ | ⟨h1, _⟩
  · exact .inl ⟨by omega, by omega, h3⟩
  · omega
theorem numbAt_fr {l : Bs} {n fr i : Nat} (h : NumbAt l n fr i) (hi : i ≤ l.length) : fr ≤ i := by
  rcases h with ⟨_, h2, _⟩ | ⟨h1, _⟩
  · exact h2
  · omega
theorem dotted_len (l : List Nat) : l.length ≤ (dotted l).length := by
  induction l with
  | nil => simp [dotted]
  | cons n r ih => simp only [dotted, List.flatMap_cons, List.length_append, List.length_cons] at *; omega
theorem numbAt_n {l : Bs} {n fr i : Nat} (h : NumbAt l n fr i) (hi : i ≤ l.length) : n ≤ l.length + 1 := by
  rcases h with ⟨_, h2, done, h3, h4, _⟩ | ⟨h1, _⟩
  · have h5 := dotted_len done
    rw [← h4, List.length_take] at h5
    omega
  · omega

set_option maxHeartbeats 4000000 in
set_option maxRecDepth 100000 in
theorem numbered_any (l : Bs) (hl : l.length ≤ 1000000) (most : Nat) (_hm : most ≤ 1000) (w : World) : Calls Tryz.prog 23 #[.string (str l), .int .i64 (most : Int)] w (NumbPost l most w) := by
  have hsl : (str l).size = l.length := str_size l
  go_enter Tryz.func23, Tryz.ntmps23
  go_wp2_with fail
  go_loop [5, 6, 7, 8] (fun n f x z => ∃ (zv : Value) (k fr i : Nat), zv = z ∧ n = .int .i64 (k : Int) ∧ f = .int .i64 (fr : Int) ∧ x = .int .i64 (i : Int) ∧ i ≤ l.length + 1 ∧ k ≤ l.length + 2 ∧ Hid (NumbAt l k fr i)) (fun _ _ x _ => l.length + 1 - (intOf x).toNat)
  case atStart => exact ⟨_, 1, 0, 0, rfl, rfl, rfl, rfl, Nat.zero_le _, by omega, Lib.hid (.inl ⟨Nat.zero_le _, Nat.le_refl _, [], rfl, rfl, by simp⟩)⟩
  case round =>
    obtain ⟨zv, k, fr, i, rfl, rfl, rfl, rfl, hi, hk, H⟩ := hrel
    by_cases hil : i ≤ l.length
    · have hfr := numbAt_fr H.out hil
      have hkn := numbAt_n H.out hil
      obtain ⟨q, hq⟩ : ∃ q, q = (l.take i).drop fr := ⟨_, rfl⟩
      have q1 := sl_m (l := l) (i := fr) (j := i) hfr hil
      rw [← hq] at q1
      have hqs : (str q).size = q.length := str_size q
      have hql : q.length ≤ l.length := by rw [hq, List.length_drop, List.length_take]; omega
      have HQ := Lib.hid hq
      clear hq
      by_cases hskip : i < l.length ∧ l[i]? ≠ some 46
      · obtain ⟨hlt, hne⟩ := hskip
        obtain ⟨c, hc⟩ : ∃ c, l[i]? = some c := ⟨_, List.getElem?_eq_getElem hlt⟩
        have q2 := str_index hc
        have hcn : c.toNat ≠ 46 := by
          intro e
          rw [show c = 46 from UInt8.toNat_inj.1 e] at hc
          exact hne hc
        have m1 : ((c.toNat : Int) != 46) = true := by simp; omega
        unfold byt at q2
        have HN := Lib.hid (numbAt_skip H.out hlt)
        clear hne hc hcn q1 hqs hql hkn
        go_wp2_with fail
        go_round
        case rel => exact ⟨_, k, fr, i + 1, rfl, rfl, rfl, by go_num, by omega, hk, HN⟩
        case measure => simp [intOf]; omega
      · have hdot : i = l.length ∨ (i < l.length ∧ l[i]? = some 46) := by
          by_cases h : i < l.length
          · right; refine ⟨h, ?_⟩
            by_cases h2 : l[i]? = some 46
            · exact h2
            · exact absurd ⟨h, h2⟩ hskip
          · left; omega
        clear hskip
        rcases hdot with hie | ⟨hlt, hd⟩
        · skip
          have hge : l.length ≤ i := by omega
          have HIE := Lib.hid hie
          clear hie hkn
          by_cases hdg : allDig q = true
          · by_cases h0 : 1 < q.length ∧ q.head? = some 48
            · obtain ⟨h01, h02⟩ := h0
              have hq0 : q[0]? = some 48 := by rw [← h02]; cases q <;> rfl
              have q3 : ∀ w, (Instr.index 9 (.string (str q)) (.int .i64 0)).run Tryz.prog w = .ok (.int .u8 48) w := fun w => str_index hq0 w
              clear hq0 h02
              go_wp2_with fail
              (with_reducible refine (digits_any q (by omega) _).mono ?_)
              rintro e w1 ⟨rfl, rfl⟩
              go_wp2_with fail
              go_ret
              exact ⟨false, rfl, fun h => (by cases h), rfl⟩
            · by_cases h15 : 15 < q.length
              · have hq1 : 1 < q.length := by omega
                obtain ⟨c0, hc0⟩ : ∃ c, q[0]? = some c := ⟨_, List.getElem?_eq_getElem (by omega)⟩
                have hne : c0.toNat ≠ 48 := by
                  intro e
                  rw [show c0 = 48 from UInt8.toNat_inj.1 e] at hc0
                  exact h0 ⟨hq1, by rw [← hc0]; cases q <;> rfl⟩
                have m3 : ((c0.toNat : Int) == 48) = false := by simp; omega
                have q3 : ∀ w, (Instr.index 9 (.string (str q)) (.int .i64 0)).run Tryz.prog w = .ok (.int .u8 (c0.toNat : Int)) w := fun w => str_index hc0 w
                clear h0 hc0 hne
                go_wp2_with fail
                (with_reducible refine (digits_any q (by omega) _).mono ?_)
                rintro e w1 ⟨rfl, rfl⟩
                go_wp2_with fail
                go_ret
                exact ⟨false, rfl, fun h => (by cases h), rfl⟩
              · have h1 : q.length ≤ 1 ∨ q.head? ≠ some 48 := by
                  by_cases h : q.length ≤ 1
                  · exact .inl h
                  · exact .inr fun h2 => h0 ⟨by omega, h2⟩
                have hat : NumbAt l k (i + 1) (i + 1) := by
                  have e := HIE.out
                  have h2 := H.out
                  have h3 := HQ.out
                  rw [e] at h2 h3 ⊢
                  rw [h3] at hdg h1 h15
                  exact numbAt_end h2 hdg h1 (by omega)
                have HA := Lib.hid hat
                clear hat
                by_cases hq1 : 1 < q.length
                · obtain ⟨c0, hc0⟩ : ∃ c, q[0]? = some c := ⟨_, List.getElem?_eq_getElem (by omega)⟩
                  have hne : c0.toNat ≠ 48 := by
                    intro e
                    rw [show c0 = 48 from UInt8.toNat_inj.1 e] at hc0
                    exact h0 ⟨hq1, by rw [← hc0]; cases q <;> rfl⟩
                  have m3 : ((c0.toNat : Int) == 48) = false := by simp; omega
                  have q3 : ∀ w, (Instr.index 9 (.string (str q)) (.int .i64 0)).run Tryz.prog w = .ok (.int .u8 (c0.toNat : Int)) w := fun w => str_index hc0 w
                  clear h0 hc0 hne h1
                  go_wp2_with fail
                  (with_reducible refine (digits_any q (by omega) _).mono ?_)
                  rintro e w1 ⟨rfl, rfl⟩
                  go_wp2_with fail
                  go_round
                  case rel => exact ⟨_, k, i + 1, i + 1, rfl, rfl, by go_num, by go_num, by omega, by omega, HA⟩
                  case measure => simp [intOf]; omega
                · have hq2 : q.length ≤ 1 := by omega
                  clear h0 hq1 h1
                  go_wp2_with fail
                  (with_reducible refine (digits_any q (by omega) _).mono ?_)
                  rintro e w1 ⟨rfl, rfl⟩
                  go_wp2_with fail
                  go_round
                  case rel => exact ⟨_, k, i + 1, i + 1, rfl, rfl, by go_num, by go_num, by omega, by omega, HA⟩
                  case measure => simp [intOf]; omega
          · have hdg : allDig q = false := by simpa using hdg
            go_wp2_with fail
            (with_reducible refine (digits_any q (by omega) _).mono ?_)
            rintro e w1 ⟨rfl, rfl⟩
            go_wp2_with fail
            go_ret
            exact ⟨false, rfl, fun h => (by cases h), rfl⟩
        · skip
          have q2 : ∀ w, (Instr.index 9 (.string (str l)) (.int .i64 (i : Int))).run Tryz.prog w = .ok (.int .u8 46) w := fun w => str_index hd w
          have HD := Lib.hid hd
          clear hd
          by_cases hdg : allDig q = true
          · by_cases h0 : 1 < q.length ∧ q.head? = some 48
            · obtain ⟨h01, h02⟩ := h0
              have hq0 : q[0]? = some 48 := by rw [← h02]; cases q <;> rfl
              have q3 : ∀ w, (Instr.index 9 (.string (str q)) (.int .i64 0)).run Tryz.prog w = .ok (.int .u8 48) w := fun w => str_index hq0 w
              clear hq0 h02
              go_wp2_with fail
              (with_reducible refine (digits_any q (by omega) _).mono ?_)
              rintro e w1 ⟨rfl, rfl⟩
              go_wp2_with fail
              go_ret
              exact ⟨false, rfl, fun h => (by cases h), rfl⟩
            · by_cases h15 : 15 < q.length
              · have hq1 : 1 < q.length := by omega
                obtain ⟨c0, hc0⟩ : ∃ c, q[0]? = some c := ⟨_, List.getElem?_eq_getElem (by omega)⟩
                have hne : c0.toNat ≠ 48 := by
                  intro e
                  rw [show c0 = 48 from UInt8.toNat_inj.1 e] at hc0
                  exact h0 ⟨hq1, by rw [← hc0]; cases q <;> rfl⟩
                have m3 : ((c0.toNat : Int) == 48) = false := by simp; omega
                have q3 : ∀ w, (Instr.index 9 (.string (str q)) (.int .i64 0)).run Tryz.prog w = .ok (.int .u8 (c0.toNat : Int)) w := fun w => str_index hc0 w
                clear h0 hc0 hne
                go_wp2_with fail
                (with_reducible refine (digits_any q (by omega) _).mono ?_)
                rintro e w1 ⟨rfl, rfl⟩
                go_wp2_with fail
                go_ret
                exact ⟨false, rfl, fun h => (by cases h), rfl⟩
              · have h1 : q.length ≤ 1 ∨ q.head? ≠ some 48 := by
                  by_cases h : q.length ≤ 1
                  · exact .inl h
                  · exact .inr fun h2 => h0 ⟨by omega, h2⟩
                have hat : NumbAt l (k + 1) (i + 1) (i + 1) := by
                  have h3 := HQ.out
                  rw [h3] at hdg h1 h15
                  exact numbAt_cut H.out hlt HD.out hdg h1 (by omega)
                have HA := Lib.hid hat
                clear hat
                by_cases hq1 : 1 < q.length
                · obtain ⟨c0, hc0⟩ : ∃ c, q[0]? = some c := ⟨_, List.getElem?_eq_getElem (by omega)⟩
                  have hne : c0.toNat ≠ 48 := by
                    intro e
                    rw [show c0 = 48 from UInt8.toNat_inj.1 e] at hc0
                    exact h0 ⟨hq1, by rw [← hc0]; cases q <;> rfl⟩
                  have m3 : ((c0.toNat : Int) == 48) = false := by simp; omega
                  have q3 : ∀ w, (Instr.index 9 (.string (str q)) (.int .i64 0)).run Tryz.prog w = .ok (.int .u8 (c0.toNat : Int)) w := fun w => str_index hc0 w
                  clear h0 hc0 hne h1
                  go_wp2_with fail
                  (with_reducible refine (digits_any q (by omega) _).mono ?_)
                  rintro e w1 ⟨rfl, rfl⟩
                  go_wp2_with fail
                  go_round
                  case rel => exact ⟨_, k + 1, i + 1, i + 1, rfl, by go_num, by go_num, by go_num, by omega, by omega, HA⟩
                  case measure => simp [intOf]; omega
                · have hq2 : q.length ≤ 1 := by omega
                  clear h0 hq1 h1
                  go_wp2_with fail
                  (with_reducible refine (digits_any q (by omega) _).mono ?_)
                  rintro e w1 ⟨rfl, rfl⟩
                  go_wp2_with fail
                  go_round
                  case rel => exact ⟨_, k + 1, i + 1, i + 1, rfl, by go_num, by go_num, by go_num, by omega, by omega, HA⟩
                  case measure => simp [intOf]; omega
          · have hdg : allDig q = false := by simpa using hdg
            go_wp2_with fail
            (with_reducible refine (digits_any q (by omega) _).mono ?_)
            rintro e w1 ⟨rfl, rfl⟩
            go_wp2_with fail
            go_ret
            exact ⟨false, rfl, fun h => (by cases h), rfl⟩
    · have hie : i = l.length + 1 := by omega
      have hf : decide (k ≤ most) = true → Numb most l := by
        intro h
        rcases H.out with ⟨h1, _⟩ | ⟨_, ns, h1, h2, h3, h4⟩
        · omega
        · exact ⟨ns, h1, h2, by simp at h; omega, h4⟩
      have HF := Lib.hid hf
      clear hf hie
      go_wp2_with fail
      go_ret
      exact ⟨_, rfl, HF.out, rfl⟩
end Go.Proofs.Tz
