/- Contract of the statement's points. -/
import Derived.Test.YtcehboopgjpfcaaGreatDoorL9
namespace Go.Proofs.Mv
/-- The pieces between points. -/
def pts : Bs → Bs → List Bs
  | cur, [] => [cur]
  | cur, c :: r => if c = 46 then cur :: pts [] r else pts (cur ++ [c]) r
theorem pts_dig : ∀ (q cur r : Bs), (∀ c ∈ q, c ≠ 46) → pts cur (q ++ r) = pts (cur ++ q) r
  | [], cur, r, _ => by simp
  | c :: q, cur, r, h => by
    rw [List.cons_append, pts, if_neg (h c (by simp)), pts_dig q _ r (fun x hx => h x (by simp [hx]))]; simp
theorem pts_num : ∀ (l : List Nat), l ≠ [] → pts [] (numTxt l) = l.map dec
  | [], h => absurd rfl h
  | [n], _ => by
    have h := pts_dig (dec n) [] [] (fun c hc e => by rw [e] at hc; exact absurd (dec_dig n _ hc) (by decide))
    rw [List.append_nil] at h
    rw [numTxt_one, h]; rfl
  | n :: m :: r, _ => by
    rw [numTxt_cons, pts_dig (dec n) [] _ (fun c hc e => by rw [e] at hc; exact absurd (dec_dig n _ hc) (by decide)), pts, if_pos rfl, pts_num (m :: r) (by simp)]; rfl
theorem pts_len : ∀ (r cur : Bs), (pts cur r).length ≤ r.length + 1
  | [], _ => by simp [pts]
  | c :: r, cur => by
    rw [pts]
    split
    · have := pts_len r []; simp; omega
    · have := pts_len r (cur ++ [c]); simp; omega
/-- Where the cutting stands. -/
def AtP (s : Bs) (fr j : Nat) (done : List Bs) : Prop := fr ≤ j ∧ j ≤ s.length ∧ pts [] s = done ++ pts ((s.take j).drop fr) (s.drop j)
theorem atP_start (s : Bs) : AtP s 0 0 [] := ⟨Nat.le_refl _, Nat.zero_le _, by simp⟩
theorem atP_end {s : Bs} {fr : Nat} {done : List Bs} (h : AtP s fr s.length done) : pts [] s = done ++ [(s.take s.length).drop fr] := by
  have h3 := h.2.2
  rw [List.drop_eq_nil_of_le (Nat.le_refl s.length), pts] at h3
  exact h3
theorem drop_at' {s : Bs} {j : Nat} {c : UInt8} (hc : s[j]? = some c) : s.drop j = c :: s.drop (j + 1) := by
  obtain ⟨hj, he⟩ := List.getElem?_eq_some_iff.1 hc
  rw [List.drop_eq_getElem_cons hj, he]
theorem atP_pt {s : Bs} {fr j : Nat} {done : List Bs} {c : UInt8} (h : AtP s fr j done) (hc : s[j]? = some c) (hp : c = 46) : AtP s (j + 1) (j + 1) (done ++ [(s.take j).drop fr]) := by
  have hj := (List.getElem?_eq_some_iff.1 hc).1
  refine ⟨Nat.le_refl _, hj, ?_⟩
  have e : (s.take (j + 1)).drop (j + 1) = [] := List.drop_eq_nil_of_le (by rw [List.length_take]; omega)
  rw [h.2.2, drop_at' hc, pts, if_pos hp, e, List.append_assoc]; rfl
theorem atP_go {s : Bs} {fr j : Nat} {done : List Bs} {c : UInt8} (h : AtP s fr j done) (hc : s[j]? = some c) (hp : c ≠ 46) : AtP s fr (j + 1) done := by
  have hj := (List.getElem?_eq_some_iff.1 hc).1
  refine ⟨by have := h.1; omega, hj, ?_⟩
  rw [h.2.2, drop_at' hc, pts, if_neg hp, Go.Proofs.Tz.take_snoc hc, List.drop_append_of_le_length (by rw [List.length_take]; have := h.1; omega)]
end Go.Proofs.Mv
namespace Go.Proofs.Tz
open Go.RowKit Mv

set_option maxHeartbeats 4000000 in
set_option maxRecDepth 100000 in
theorem points29 (s : Bs) (hs : s.length ≤ 1000000) (w : World) :
    Calls Tryz.prog 29 #[.string (str s)] w fun e w' => ∃ v, e = .returned v ∧ Strs w' w.heap.size v (pts [] s) ∧ Below w.heap.size w w' := by
  obtain ⟨i9, hi9, hz9, hs9, hb9⟩ := info9
  have hss := str_size
  go_enter Tryz.func29, Tryz.ntmps29
  go_wp2_with fail
  obtain ⟨wo, rfl⟩ : ∃ wo : World, wo = w := ⟨_, rfl⟩
  go_loopw [3, 4, 5] (fun o f i wr => ∃ (ov : Value) (fr j : Nat) (done : List Bs), ov = o ∧ f = .int .i64 (fr : Int) ∧ i = .int .i64 (j : Int) ∧ j ≤ s.length + 1 ∧ fr ≤ s.length + 1 ∧ done.length ≤ j ∧
      Hid (Strs wr wo.heap.size ov done) ∧ Hid (Below wo.heap.size wo wr) ∧ Hid (AtP s fr j done ∨ (j = s.length + 1 ∧ pts [] s = done))) (fun _ _ i _ => s.length + 1 - (intOf i).toNat)
  case atStart => exact ⟨_, 0, 0, [], rfl, rfl, rfl, Nat.zero_le _, Nat.zero_le _, Nat.zero_le _, Lib.hid (Strs.nil _ _), Lib.hid (Below.refl _ _), Lib.hid (.inl (atP_start s))⟩
  case round =>
    obtain ⟨ov, fr, j, done, rfl, rfl, rfl, hj, hfr, hdl, HT, HB, HA⟩ := hrel
    by_cases hend : j = s.length + 1
    · have hfin : pts [] s = done := by
        rcases HA.out with h | h
        · have := h.2.1; omega
        · exact h.2
      have HF := Lib.hid hfin
      clear hfin
      subst hend
      have hge : decide ((s.length + 1 : Nat) ≤ s.length) = false := by simp
      go_wp2_with fail
      go_ret
      exact ⟨_, rfl, by rw [HF.out]; exact HT.out, HB.out⟩
    · have hat : AtP s fr j done := by
        rcases HA.out with h | h
        · exact h
        · exact absurd h.1 hend
      have hf1 := hat.1
      have hj1 := hat.2.1
      have HAT := Lib.hid hat
      clear HA hat
      have hszo : wo.heap.size ≤ wr.heap.size := HB.out.size
      have q5 := sl_m (l := s) (i := fr) (j := j) hf1 hj1
      obtain ⟨cur, hcur⟩ : ∃ c, c = (s.take j).drop fr := ⟨_, rfl⟩
      rw [← hcur] at q5
      have HCUR := Lib.hid hcur
      clear hcur
      have hnext : ∀ (w2 : World) (g cap : Nat), w2.ownsRow wo.heap.size 9 1 (.slice (some ⟨g, 0, none⟩) (done.length + 1) cap) (done.length + 1) (svs done ++ [sv cur]) → (wr.alloc (Obj.cells #[sv cur] 9)).grownBy w2 ov.ownBlock →
          Hid (Strs w2 wo.heap.size (.slice (some ⟨g, 0, none⟩) (done.length + 1) cap) (done ++ [cur])) ∧ Hid (Below wo.heap.size wo w2) := by
        intro w2 g cap hown hgrow
        refine ⟨Lib.hid ?_, Lib.hid ((HB.out.alloc hszo _).grown hgrow (by rw [size_alloc]; omega) (fun j hj => HT.out.lt j hj |>.1))⟩
        unfold Strs
        rw [svs_append, List.length_append]
        exact hown
      have HN := Lib.hid hnext
      clear hnext
      by_cases hle : j = s.length
      · subst hle
        have hlast := atP_end HAT.out
        rw [← HCUR.out] at hlast
        have HL := Lib.hid hlast
        clear hlast
        go_wp2_with (first | (at_builtin; refine wpList_append_lies _ rfl (.tmp 22) (.tmp 27) 22 rfl wo.heap.size 9 i9 (.string ByteArray.empty) 1 16 Tryz.underlying22 hi9 hz9 hs9 hb9 rfl (by decide) ov done.length (svs done) rfl (HT.out.alloc _) ⟨wr.heap.size, 0, none⟩ 1 1 [sv cur] rfl rfl (cell_one_new _ _ _) (by intro u hu; simp at hu; subst hu; rfl) (by decide) (by unfold maxLen; omega) (by omega) (by simp; omega) _ rfl ?_; intro g cap w2 hown2 hgrow2 hat2 hlt2))
        obtain ⟨HT2, HB2⟩ := HN.out w2 g cap hown2 hgrow2
        clear hown2 hgrow2 hat2 hlt2
        go_roundw
        case rel => exact ⟨_, s.length + 1, s.length + 1, done ++ [cur], rfl, by go_num, by go_num, Nat.le_refl _, Nat.le_refl _, by rw [List.length_append]; simp; omega, HT2, HB2, Lib.hid (.inr ⟨rfl, HL.out⟩)⟩
        case measure => simp [intOf]
      · have hlt : j < s.length := by omega
        obtain ⟨c, hc⟩ : ∃ c, s[j]? = some c := ⟨_, List.getElem?_eq_getElem hlt⟩
        have q2 := str_index hc
        unfold byt at q2
        have HC := Lib.hid hc
        clear hc
        by_cases hp : c = 46
        · have m1 : ((c.toNat : Int) == 46) = true := by rw [hp]; rfl
          have HP := Lib.hid hp
          clear hp
          go_wp2_with (first | (at_builtin; refine wpList_append_lies _ rfl (.tmp 22) (.tmp 27) 22 rfl wo.heap.size 9 i9 (.string ByteArray.empty) 1 16 Tryz.underlying22 hi9 hz9 hs9 hb9 rfl (by decide) ov done.length (svs done) rfl (HT.out.alloc _) ⟨wr.heap.size, 0, none⟩ 1 1 [sv cur] rfl rfl (cell_one_new _ _ _) (by intro u hu; simp at hu; subst hu; rfl) (by decide) (by unfold maxLen; omega) (by omega) (by simp; omega) _ rfl ?_; intro g cap w2 hown2 hgrow2 hat2 hlt2))
          obtain ⟨HT2, HB2⟩ := HN.out w2 g cap hown2 hgrow2
          have HA2 := Lib.hid (atP_pt HAT.out HC.out HP.out)
          rw [← HCUR.out] at HA2
          clear hown2 hgrow2 hat2 hlt2
          go_roundw
          case rel => exact ⟨_, j + 1, j + 1, done ++ [cur], rfl, by go_num, by go_num, by omega, by omega, by rw [List.length_append]; simp; omega, HT2, HB2, Lib.hid (.inl HA2.out)⟩
          case measure => simp [intOf]; omega
        · have hne : ((c.toNat : Int) == 46) = false := by
            simp only [beq_eq_false_iff_ne, ne_eq]
            intro e
            exact hp (UInt8.toNat_inj.1 (by show c.toNat = 46; omega))
          have HA2 := Lib.hid (atP_go HAT.out HC.out hp)
          clear hp
          go_wp2_with fail
          go_roundw
          case rel => exact ⟨_, fr, j + 1, done, rfl, rfl, by go_num, by omega, by omega, by omega, HT, HB, Lib.hid (.inl HA2.out)⟩
          case measure => simp [intOf]; omega
end Go.Proofs.Tz
