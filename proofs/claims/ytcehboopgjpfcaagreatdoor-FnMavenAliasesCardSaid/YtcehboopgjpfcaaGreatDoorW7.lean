/- The walk of FnMavenAliases. -/
import Derived.Test.YtcehboopgjpfcaaGreatDoorF9
import Derived.Test.YtcehboopgjpfcaaGreatDoorV3
import Derived.Test.YtcehboopgjpfcaaGreatDoorL9
namespace Go.Proofs.Tz
open Go.RowKit Mv

/-- The texts of the pairs, one behind the other. -/
def altx (core k : Bs) : List Bs := (aliases k).flatMap fun p => [core ++ p.1, core ++ p.2]
theorem altx_at (core k : Bs) {i : Nat} {p : Bs × Bs} (h : (aliases k)[i]? = some p) : (altx core k)[i * 2]? = some (core ++ p.1) ∧ (altx core k)[i * 2 + 1]? = some (core ++ p.2) := by
  have hi : i < 10 := (List.getElem?_eq_some_iff.1 h).1
  match i, hi with
  | 0, _ => injection h with h; subst h; exact ⟨rfl, rfl⟩
  | 1, _ => injection h with h; subst h; exact ⟨rfl, rfl⟩
  | 2, _ => injection h with h; subst h; exact ⟨rfl, rfl⟩
  | 3, _ => injection h with h; subst h; exact ⟨rfl, rfl⟩
  | 4, _ => injection h with h; subst h; exact ⟨rfl, rfl⟩
  | 5, _ => injection h with h; subst h; exact ⟨rfl, rfl⟩
  | 6, _ => injection h with h; subst h; exact ⟨rfl, rfl⟩
  | 7, _ => injection h with h; subst h; exact ⟨rfl, rfl⟩
  | 8, _ => injection h with h; subst h; exact ⟨rfl, rfl⟩
  | 9, _ => injection h with h; subst h; exact ⟨rfl, rfl⟩
theorem altx_cells (core k : Bs) : (#[Value.string (str core ++ ⟨#[97]⟩ ++ str k), Value.string (str core ++ ⟨#[45, 97, 108, 112, 104, 97, 45]⟩ ++ str k),
    Value.string (str core ++ ⟨#[98]⟩ ++ str k), Value.string (str core ++ ⟨#[45, 98, 101, 116, 97, 45]⟩ ++ str k),
    Value.string (str core ++ ⟨#[109]⟩ ++ str k), Value.string (str core ++ ⟨#[45, 109, 105, 108, 101, 115, 116, 111, 110, 101, 45]⟩ ++ str k),
    Value.string (str core ++ ⟨#[45, 99, 114]⟩ ++ str k), Value.string (str core ++ ⟨#[45, 114, 99, 45]⟩ ++ str k),
    Value.string (str core ++ ⟨#[45, 103, 97]⟩), Value.string (str core), Value.string (str core ++ ⟨#[45, 102, 105, 110, 97, 108]⟩), Value.string (str core),
    Value.string (str core ++ ⟨#[45, 82, 69, 76, 69, 65, 83, 69]⟩), Value.string (str core), Value.string (str core ++ ⟨#[46, 48]⟩), Value.string (str core),
    Value.string (str core ++ ⟨#[45, 48]⟩), Value.string (str core), Value.string (str core ++ ⟨#[45, 97, 108, 112, 104, 97]⟩ ++ str k), Value.string (str core ++ ⟨#[45, 97, 108, 112, 104, 97, 45]⟩ ++ str k)] : Array Value) = (svs (altx core k)).toArray := by
  have e : ∀ (q : Bs), (⟨q.toArray⟩ : ByteArray) = str q := fun _ => rfl
  simp only [altx, aliases, List.flatMap_cons, List.flatMap_nil, svs, sv, List.map_append, List.map_cons, List.map_nil, List.cons_append, List.nil_append, sAlpha, sBeta, sMile, sCr, sRc, sGa, sFinal]
  simp [str, ByteArray.ext_iff, Array.append_assoc]

set_option maxHeartbeats 8000000 in
set_option maxRecDepth 100000 in
theorem aliases_walk (K : Nat) (hK : 1 ≤ K) (HI : ItoaSaid K) (core : Bs) (n : Nat) (hn : n < 65536) (w : World) (hE : EnvL w) (hKw : KwAt w) (hc : core.length ≤ 9223372036854775807) :
    Calls Tryz.prog 7 #[.string (str core), .int .u16 (n : Int)] w fun e w' => e = .returned (.bool true) ∧ Below w.heap.size w w' := by
  have hss := str_size
  by_cases g1 : core.length ≤ 2147483647
  · have HE := Lib.hid hE
    have HKw := Lib.hid hKw
    have HHI := Lib.hid HI
    have HN := Lib.hid hn
    clear hE hKw HI
    have hB0 : Below w.heap.size w (w.alloc (Obj.cells #[Value.string (str core)] 9)) := (Below.refl _ _).alloc (Nat.le_refl _) _
    have HB0 := Lib.hid hB0
    have hrs : RowS (w.alloc (Obj.cells #[Value.string (str core)] 9)) (some ⟨w.heap.size, 0, none⟩) [core] := by
      have hA : Arr (w.alloc (Obj.cells #[Value.string (str core)] 9)) w.heap.size 9 [.string (str core)] := Arr.new _ _ _
      intro i s hi
      match i with
      | 0 => injection hi with hi; subst hi; exact ⟨_, 0, rfl, hA.cell (j := 0) rfl⟩
      | i + 1 => simp at hi
    have hsh : Calls Tryz.prog 17 #[.slice (some ⟨w.heap.size, 0, none⟩) 1 1] (w.alloc (Obj.cells #[Value.string (str core)] 9)) fun e w' => e = .returned (.bool (shortB [core])) ∧ w.alloc (Obj.cells #[Value.string (str core)] 9) = w' :=
      short_any (some ⟨w.heap.size, 0, none⟩) 1 [core] (by simp) _ hrs
    have HSH := Lib.hid hsh
    clear hB0 hrs hsh
    go_enter Tryz.func7, Tryz.ntmps7
    go_wp2_with fail
    (with_reducible refine (HSH.out).mono ?_)
    rintro e w1 ⟨rfl, rfl⟩
    by_cases hs : shortB [core] = true
    · have hs3 : core.length ≤ 1200 := by
        simp only [shortB, Bool.and_eq_true, List.all_eq_true, decide_eq_true_eq] at hs
        exact hs.1 core (by simp)
      go_wp2_with fail
      have hnb : Calls Tryz.prog 23 #[.string (str core), .int .i64 8] (w.alloc (Obj.cells #[Value.string (str core)] 9)) (NumbPost core 8 (w.alloc (Obj.cells #[Value.string (str core)] 9))) := numbered_any core (by omega) 8 (by decide) _
      (with_reducible refine hnb.mono ?_)
      rintro e w1 ⟨b, rfl, hb, rfl⟩
      clear hnb
      cases b
      · clear hb
        go_wp2_with fail
        go_ret
        exact ⟨rfl, HB0.out⟩
      · have HNB := Lib.hid (hb rfl)
        have hdl := dec_len_pow 4 n (by have := HN.out; omega)
        clear hb
        go_wp2_with fail
        (with_reducible refine (decimal_any n HN.out _).mono ?_)
        rintro e w1 ⟨rfl, rfl⟩
        go_wp2_with fail
        rw [altx_cells]
        obtain ⟨w2, hw2⟩ : ∃ x, x = (w.alloc (Obj.cells #[Value.string (str core)] 9)).alloc (Obj.cells (svs (altx core (dec n))).toArray 42) := ⟨_, rfl⟩
        have hA2 : Arr w2 (w.heap.size + 1) 42 (svs (altx core (dec n))) := by
          have := Arr.new (w.alloc (Obj.cells #[Value.string (str core)] 9)) 42 (svs (altx core (dec n)))
          rw [size_alloc, ← hw2] at this; exact this
        have hB2 : Below w.heap.size w w2 := by rw [hw2]; exact HB0.out.alloc (by rw [size_alloc]; omega) _
        rw [← hw2]
        have HA2 := Lib.hid hA2
        have HB2 := Lib.hid hB2
        clear hw2 hA2 hB2
        obtain ⟨ns, hns, hcore, _, hn15⟩ := HNB.out
        have hV : 65536 ≤ WB ^ K := Nat.le_trans (by decide : 65536 ≤ WB) (by
          calc WB = WB ^ 1 := (Nat.pow_one _).symm
            _ ≤ WB ^ K := Nat.pow_le_pow_right WB_pos hK)
        have hct : ∀ (k : Nat) (p : Bs × Bs), (aliases (dec n))[k]? = some p → ∀ w' : World, Below w2.heap.size w2 w' → Calls Tryz.prog 28 #[.string (str (core ++ p.1)), .string (str (core ++ p.2))] w' fun e w'' => e = .returned (.tuple #[.int .i64 0, .bool true]) ∧ Below w'.heap.size w' w'' := by
          intro k p hp w' hB
          have hpm := List.mem_of_getElem? hp
          obtain ⟨t1, t2⟩ := tail_alias (V := WB ^ K) (by omega) (by have := HN.out; omega) HN.out p hpm
          have c1 := t1.core hns (fun m hm => big15 hK (hn15 m hm)) (by rw [← hcore]; exact hs3)
          have c2 := t2.core hns (fun m hm => big15 hK (hn15 m hm)) (by rw [← hcore]; exact hs3)
          rw [← hcore] at c1 c2
          have hbw := HB2.out.trans (hB.mono HB2.out.size)
          refine mctext28 K HHI.out _ _ 0 w' (HE.out.below hbw) (HKw.out.below hbw) ⟨c1.2.2, c1.2.1, nums_runs (Nat.pow_pos WB_pos) c1.1⟩ ⟨c2.2.2, c2.2.1, nums_runs (Nat.pow_pos WB_pos) c2.1⟩ ?_
          rw [hcore, alias_eq hns n p hpm]
          exact vcmp_self _
        have HCT := Lib.hid hct
        clear hct hV hcore hn15 hns HNB
        obtain ⟨wo, rfl⟩ : ∃ wo : World, wo = w2 := ⟨_, rfl⟩
        go_loopw [7, 8, 9, 91] (fun x r o i wr => ∃ (xv rv ov : Value) (k : Nat), xv = x ∧ rv = r ∧ ov = o ∧ i = .int .i64 (k : Int) ∧ k ≤ 10 ∧ Hid (Below wo.heap.size wo wr)) (fun _ _ _ i _ => 10 - (intOf i).toNat)
        case atStart => exact ⟨_, _, _, 0, rfl, rfl, rfl, rfl, by decide, Lib.hid (Below.refl _ _)⟩
        case round =>
          obtain ⟨xv, rv, ov, k, rfl, rfl, rfl, rfl, hk, J⟩ := hrel
          by_cases hkl : k < 10
          · obtain ⟨p, hp⟩ : ∃ p, (aliases (dec n))[k]? = some p := ⟨_, List.getElem?_eq_getElem hkl⟩
            have hat := altx_at core (dec n) hp
            have c0 : wr.cell? ⟨w.heap.size + 1, k * 2, none⟩ = some (.string (str (core ++ p.1))) := (HA2.out.below J.out).cell (by rw [svs, List.getElem?_map, hat.1]; rfl)
            have c1 : wr.cell? ⟨w.heap.size + 1, k * 2 + 1, none⟩ = some (.string (str (core ++ p.2))) := (HA2.out.below J.out).cell (by rw [svs, List.getElem?_map, hat.2]; rfl)
            have HC := Lib.hid (HCT.out k p hp)
            clear hp hat
            go_wp2_with fail
            (with_reducible refine (HC.out _ (J.out.alloc J.out.size _)).mono ?_)
            rintro e w3 ⟨rfl, hB3⟩
            have HBX := Lib.hid ((J.out.alloc J.out.size (Obj.cells #[Value.string (str (core ++ p.1)), Value.string (str (core ++ p.2))] 42)).trans (hB3.mono (by rw [size_alloc]; have := J.out.size; omega)))
            clear hB3
            go_wp2_with fail
            go_roundw
            case rel => exact ⟨_, _, _, k + 1, rfl, rfl, rfl, by go_num, by omega, HBX⟩
            case measure => simp [intOf]; omega
          · have hke : k = 10 := by omega
            subst hke
            go_wp2_with fail
            go_ret
            exact ⟨rfl, HB2.out.trans (J.out.mono HB2.out.size)⟩
    · have hs : shortB [core] = false := by simpa using hs
      go_wp2_with fail
      go_ret
      exact ⟨rfl, HB0.out⟩
  · have p3 : 2147483647 < core.length := by omega
    clear g1
    go_enter Tryz.func7, Tryz.ntmps7
    go_wp2_with fail
    go_ret
    exact ⟨rfl, Below.refl _ _⟩
end Go.Proofs.Tz
