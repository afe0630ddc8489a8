/- Contract of the reference's MavenTextKnown. -/
import Derived.Test.YtcehboopgjpfcaaGreatDoorS11
import Derived.Test.YtcehboopgjpfcaaGreatDoorV1
namespace Go.Proofs.Mv
open Go.Proofs.Tz (pOk)
theorem nv_len (s : Bs) (b : Bool) : (nv s b).length ≤ s.length + 20 := by
  have := Go.Proofs.Tz.strip_len s
  unfold nv
  repeat' split
  all_goals first | (simp [sRc, sAlpha, sBeta, sMile]; done) | (simp []; omega) | omega
theorem mark_ok {c : UInt8} (h : isMark c = true) : pOk [c] := by
  simp only [isMark, Bool.or_eq_true, decide_eq_true_eq] at h
  rcases h with rfl | rfl
  · first | exact .inr (.inr rfl) | exact .inr (.inl rfl)
  · first | exact .inr (.inr rfl) | exact .inr (.inl rfl)
theorem tokS_ok : ∀ (r pre cur : Bs), pOk pre → ∀ t ∈ tokS pre cur r, t.n = false ∧ pOk t.p ∧ t.v.length ≤ cur.length + r.length + 20
  | [], pre, cur, hp, t, h => by
    simp only [tokS, List.mem_cons, List.not_mem_nil, or_false] at h
    subst h
    exact ⟨rfl, hp, by have := nv_len cur false; simpa using this⟩
  | c :: r, pre, cur, hp, t, h => by
    rw [tokS] at h
    split at h
    · next hm =>
      rcases List.mem_cons.1 h with rfl | h
      · exact ⟨rfl, hp, by have := nv_len cur false; show (nv cur false).length ≤ _; omega⟩
      · have := tokS_ok r [c] [] (mark_ok hm) t h
        exact ⟨this.1, this.2.1, by have h3 := this.2.2; simp at h3 ⊢; omega⟩
    · split at h
      · rcases List.mem_cons.1 h with rfl | h
        · exact ⟨rfl, hp, by have := nv_len cur (isDig c); show (nv cur (isDig c)).length ≤ _; omega⟩
        · have := tokS_ok r [45] [c] (.inr (.inr rfl)) t h
          exact ⟨this.1, this.2.1, by have h3 := this.2.2; simp at h3 ⊢; omega⟩
      · have := tokS_ok r pre (cur ++ [c]) hp t h
        exact ⟨this.1, this.2.1, by have h3 := this.2.2; simp at h3 ⊢; omega⟩
theorem mv_ok (l : Bs) (hl : l.length ≤ 100000) : ∀ t ∈ mvTokens l, t.n = false ∧ pOk t.p ∧ t.v.length ≤ 1000000 := fun t ht => by
  rw [mv_spec, specTokens] at ht
  have h := tokS_ok (lower l) [] [] (.inl rfl) t ((trimM_form _).2.2.1 t ht)
  have hll : (lower l).length = l.length := by simp [lower]
  exact ⟨h.1, h.2.1, by have h3 := h.2.2; simp only [List.length_nil] at h3; omega⟩
end Go.Proofs.Mv
namespace Go.Proofs.Tz
open Go.RowKit Mv

/-- A text that the reference takes. -/
def tkn (l : Bs) : Bool := isAsc l && known (mvTokens l)
set_option maxHeartbeats 4000000 in
theorem textKnown26 (l : Bs) (hl : l.length ≤ 100000) (w : World) : Calls Tryz.prog 26 #[.string (str l)] w fun e w' => e = .returned (.bool (tkn l)) ∧ Below w.heap.size w w' := by
  have H40 := Lib.hid fun w => ascii40 l (by omega) w
  have H27 := Lib.hid fun w => sparse27 l hl w
  have hml : (mvTokens l).length ≤ 1000000 := by have := mv_len l; omega
  have H34 := Lib.hid fun v base w h => known34 v (mvTokens l) base w h hml (mv_ok l hl)
  unfold tkn
  clear hml
  go_enter Tryz.func26, Tryz.ntmps26
  go_wp2_with fail
  (with_reducible refine (H40.out _).mono ?_)
  rintro e w1 ⟨rfl, rfl⟩
  cases ha : isAsc l with
  | false =>
    go_wp2_with fail
    go_ret
    exact ⟨by rw [ha]; rfl, Below.refl _ _⟩
  | true =>
    go_wp2_with fail
    (with_reducible refine (H27.out _).mono ?_)
    rintro e w2 ⟨v, rfl, hT, hB⟩
    have H := Lib.hid (H34.out _ _ _ hT)
    have HB := Lib.hid hB
    clear hT hB
    go_wp2_with fail
    (with_reducible refine (H.out).mono ?_)
    rintro e w3 ⟨rfl, hB3⟩
    have HB3 := Lib.hid (HB.out.trans (hB3.mono HB.out.size))
    clear hB3
    go_wp2_with fail
    go_ret
    exact ⟨by rw [ha]; rfl, HB3.out⟩
end Go.Proofs.Tz
