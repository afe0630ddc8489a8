/- Plain laws: a version in its normal form is parsed into itself; a hyphen may be left out where a digit and a letter meet; no Go. -/
import Derived.Test.YtcehboopgjpfcaaGreatDoorV2
namespace Go.Proofs.Mv
open Go.Proofs.Tz (Homg homg_piece nv_vok Vok)

/-! ### Back -/
theorem trimM_idem (l : List Tok) : trimM (trimM l) = trimM l := by
  obtain ⟨n, hn⟩ : ∃ n, l.length = n := ⟨_, rfl⟩
  induction n using Nat.strongRecOn generalizing l with
  | _ n ih =>
    by_cases h1 : l.length ≤ 1
    · rw [trimM_short h1, trimM_short h1]
    · rcases List.eq_nil_or_concat l with e | ⟨a, x, e⟩
      · rw [e] at h1; simp at h1
      · rw [List.concat_eq_append] at e
        subst e
        have ha : a ≠ [] := fun e => by rw [e] at h1; simp at h1
        by_cases hx : isNull x = true
        · rw [trimM_null ha hx]
          exact ih a.length (by simp at hn; omega) a rfl
        · have hx : isNull x = false := by simpa using hx
          have hlast : isNull ((a ++ [x]).getLastD ⟨[], [], false⟩) = false := by rw [List.getLastD_concat]; exact hx
          rcases lastHy_form (a ++ [x]) with hf | ⟨u, t, b, h2, h3, h4⟩
          · rw [trimM_none hlast hf, trimM_none hlast hf]
          · have hl2 : isNull ((t :: b).getLastD ⟨[], [], false⟩) = false := by
              have e1 : (u ++ t :: b).getLastD ⟨[], [], false⟩ = (t :: b).getLastD ⟨[], [], false⟩ := by
                rcases List.eq_nil_or_concat (t :: b) with h | ⟨c, z, h⟩
                · cases h
                · rw [List.concat_eq_append] at h
                  rw [h, ← List.append_assoc, List.getLastD_concat, List.getLastD_concat]
              rw [h2, e1] at hlast; exact hlast
            rw [h2, trimM_cut hl2 h3 h4, trimM_cut hl2 h3 h4]
            have hul : u.length < n := by
              have := congrArg List.length h2
              simp at this hn; omega
            rw [ih u.length hul u rfl]
theorem low_low (c : UInt8) : low (low c) = low c := by
  unfold low
  by_cases h : (65 ≤ c && c ≤ 90) = true
  · rw [if_pos h]
    simp only [Bool.and_eq_true, decide_eq_true_eq] at h
    have h1 : 65 ≤ c.toNat := h.1
    have h2 : c.toNat ≤ 90 := h.2
    have h3 : (c + 32).toNat = c.toNat + 32 := by
      rw [UInt8.toNat_add]; show (c.toNat + 32) % 256 = _; omega
    rw [if_neg]
    simp only [Bool.and_eq_true, decide_eq_true_eq, not_and]
    intro h4 h5
    have h6 : (c + 32).toNat ≤ 90 := h5
    omega
  · rw [if_neg h, if_neg h]
theorem lower_part {l a q b : Bs} (h : lower l = a ++ (q ++ b)) : lower q = q := by
  have hm : ∀ c ∈ q, low c = c := fun c hc => by
    have : c ∈ lower l := by rw [h]; simp [hc]
    obtain ⟨d, _, rfl⟩ := List.mem_map.1 (show c ∈ l.map low from this)
    exact low_low d
  unfold lower
  refine (List.map_congr_left (g := id) fun c hc => hm c hc).trans (by simp)
/-- Where a token's value comes from. -/
theorem raw_src (s : Bs) : ∀ t ∈ rawT s, ∃ q m, t.v = nv q m ∧ Homg q ∧ lower q = q := by
  intro t ht
  obtain ⟨q, m, a, b, h1, h2, h3⟩ := tokL_sub (lower s) [] [] ⟨fun _ hx => absurd hx (by simp), true, fun _ hx => absurd hx (by simp)⟩ t ht
  rw [List.nil_append] at h3
  exact ⟨q, m, h1, h2, lower_part h3⟩
theorem nv_again {q : Bs} {m : Bool} (hh : Homg q) (hl : lower q = q) (hne : nv q m ≠ []) : (∃ b, Hom (nv q m) b) ∧ nv (lower (nv q m)) false = nv q m := by
  by_cases h0 : q = []
  · subst h0
    rw [nv, if_pos rfl]
    exact ⟨⟨true, hom_lit (by decide)⟩, by decide⟩
  · obtain ⟨hm, b, hb⟩ := hh
    cases b
    · have hd : allDig q = false := by
        cases hd : allDig q
        · rfl
        · obtain ⟨h4, h5⟩ := (allDig_iff q).1 hd
          obtain ⟨c, hc⟩ := List.exists_mem_of_ne_nil q h4
          have := h5 c hc
          rw [hb c hc] at this; cases this
      have hd0 : ¬ allDig q = true := by rw [hd]; decide
      have hq : Hom q false := ⟨h0, fun c hc => ⟨hm c hc, hb c hc⟩⟩
      unfold nv at hne ⊢
      rw [if_neg h0, if_neg hd0] at hne ⊢
      by_cases h1 : q = sCr
      · rw [if_pos h1]
        exact ⟨⟨false, hom_lit (by decide)⟩, by decide⟩
      · rw [if_neg h1] at hne ⊢
        by_cases h2 : q = sGa ∨ q = sFinal ∨ q = sRelease
        · rw [if_pos h2] at hne; exact absurd rfl hne
        · rw [if_neg h2] at hne ⊢
          by_cases h3 : m = true ∧ q = [97]
          · rw [if_pos h3]; exact ⟨⟨false, hom_lit (by decide)⟩, by decide⟩
          · rw [if_neg h3]
            by_cases h4 : m = true ∧ q = [98]
            · rw [if_pos h4]; exact ⟨⟨false, hom_lit (by decide)⟩, by decide⟩
            · rw [if_neg h4]
              by_cases h5 : m = true ∧ q = [109]
              · rw [if_pos h5]; exact ⟨⟨false, hom_lit (by decide)⟩, by decide⟩
              · rw [if_neg h5, hl]
                refine ⟨⟨false, hq⟩, ?_⟩
                rw [if_neg h0, if_neg hd0, if_neg h1, if_neg h2]
                simp
    · have hv : nv q m = strip q := nv_dig h0 hb m
      rw [hv, strip_dec q h0 hb]
      exact ⟨⟨true, hom_dec _⟩, nv_dec _ _⟩
/-- The text of tokens. -/
def joinT (l : List Tok) : Bs := l.flatMap fun t => t.p ++ t.v
theorem joinT_ptxt (l : List Tok) : joinT l = ptxt (l.map fun t => ⟨t.p, t.v⟩) := by
  unfold joinT ptxt
  rw [List.flatMap_map]
theorem vers_marks {s : Bs} : ∃ x xs, mvTokens s = x :: xs ∧ x.p = [] ∧ x.n = false ∧ ∀ t ∈ xs, (t.p = [46] ∨ t.p = [45]) ∧ t.n = false := by
  have hne := mv_ne s
  obtain ⟨v, n, zs, h1, h2⟩ := tokL_cons (lower s) [] []
  have hf := trimM_form (rawT s)
  rw [← mv_raw] at hf
  have hn : ∀ t ∈ mvTokens s, t.n = false := fun t ht => (tokL_nvp (lower s) [] [] t (hf.2.2.1 t ht)).1
  obtain ⟨x, xs, e⟩ := List.exists_cons_of_ne_nil hne
  refine ⟨x, xs, e, ?_, hn x (by rw [e]; simp), fun t ht => ⟨?_, hn t (by rw [e]; simp [ht])⟩⟩
  · have h3 := hf.2.1
    rw [e, show rawT s = tokL [] [] (lower s) from rfl, h1] at h3
    simp only [List.head?_cons, Option.some.injEq] at h3
    rw [h3]
  · have h3 := hf.2.2.2.2 t (by rw [e]; exact ht)
    rw [show rawT s = tokL [] [] (lower s) from rfl, h1] at h3
    exact h2 t h3
/-- A version in its normal form is parsed into itself. -/
theorem raw_back {s : Bs} (hv : ∀ t ∈ mvTokens s, t.v ≠ []) : rawT (joinT (mvTokens s)) = mvTokens s := by
  obtain ⟨x, xs, e, hx, hxn, hxs⟩ := vers_marks (s := s)
  have hsrc : ∀ t ∈ mvTokens s, (∃ b, Hom t.v b) ∧ nv (lower t.v) false = t.v := fun t ht => by
    obtain ⟨q, m, h1, h2, h3⟩ := raw_src s t ((trimM_form (rawT s)).2.2.1 t (by rw [← mv_raw]; exact ht))
    have := nv_again (m := m) h2 h3 (by rw [← h1]; exact hv t ht)
    rw [h1]; exact this
  rw [e] at hsrc ⊢
  have hmk : ∀ y ∈ xs.map (fun t : Tok => (⟨t.p, t.v⟩ : Pc)), y.m = [45] ∨ y.m = [46] := fun y hy => by
    obtain ⟨t, ht, rfl⟩ := List.mem_map.1 hy
    rcases (hxs t ht).1 with h | h
    · exact .inr h
    · exact .inl h
  have hok : PcOk ((⟨x.p, x.v⟩ : Pc) :: xs.map fun t : Tok => (⟨t.p, t.v⟩ : Pc)) := pcOk_marked _ _ hmk fun y hy => by
    rcases List.mem_cons.1 hy with rfl | hy
    · exact (hsrc x (by simp)).1
    · obtain ⟨t, ht, rfl⟩ := List.mem_map.1 hy
      exact (hsrc t (by simp [ht])).1
  have h1 := tokR_pcs (p := ⟨x.p, x.v⟩) (r := xs.map fun t : Tok => (⟨t.p, t.v⟩ : Pc)) hx hok
  rw [tokR_tokL] at h1
  rw [joinT_ptxt]
  show tokL [] [] (lower (ptxt ((⟨x.p, x.v⟩ : Pc) :: xs.map fun t : Tok => (⟨t.p, t.v⟩ : Pc)))) = _
  rw [h1, ptoks_marked _ _ _ hmk]
  have hx2 : (⟨[], nv (lower x.v) false, false⟩ : Tok) = x := by
    rw [(hsrc x (by simp)).2, ← hx, ← hxn]
  have hxs2 : (xs.map fun t : Tok => (⟨t.p, t.v⟩ : Pc)).map (fun y : Pc => (⟨y.m, nv (lower y.q) false, false⟩ : Tok)) = xs := by
    rw [List.map_map]
    refine (List.map_congr_left (g := id) fun t ht => ?_).trans (by simp)
    show (⟨t.p, nv (lower t.v) false, false⟩ : Tok) = t
    rw [(hsrc t (by simp [ht])).2, ← (hxs t ht).2]
  show (⟨[], nv (lower x.v) false, false⟩ : Tok) :: _ = _
  rw [hx2, hxs2]
theorem mv_back {s : Bs} (hv : ∀ t ∈ mvTokens s, t.v ≠ []) : mvTokens (joinT (mvTokens s)) = mvTokens s := by
  rw [mv_raw, raw_back hv, mv_raw, trimM_idem]

/-! ### Glued -/
/-- Words and numbers, with marks where two of a sort meet; what stands where a digit and a letter meet is j. -/
def gpcs (j : Bs) (pt : Nat → Bool) : Nat → Bool → List Bs → List Pc
  | _, _, [] => []
  | i, d, w :: r => ⟨if allDig w = d then (if pt i = true then [46] else [45]) else j, w⟩ :: gpcs j pt (i + 1) (allDig w) r
def Sort1 (w : Bs) : Prop := (∃ b, Hom w b) ∧ lower w ≠ [97] ∧ lower w ≠ [98] ∧ lower w ≠ [109]
theorem hom_allDig {w : Bs} {b : Bool} (h : Hom w b) : allDig w = b := by
  cases b
  · exact allDig_no h
  · exact (allDig_iff w).2 ⟨h.1, fun c hc => (h.2 c hc).2⟩
theorem nv_noabm {q : Bs} (h1 : q ≠ [97]) (h2 : q ≠ [98]) (h3 : q ≠ [109]) (m : Bool) : nv q m = nv q false := by
  unfold nv
  simp [h1, h2, h3]
theorem gpcs_nx (j : Bs) (hj : j = [] ∨ j = [45]) (pt : Nat → Bool) (i : Nat) (d : Bool) (l : List Bs) : nx (gpcs j pt i d l) = nx (gpcs [45] pt i d l) := by
  cases l with
  | nil => rfl
  | cons w r =>
    rw [gpcs, gpcs, nx, nx]
    by_cases h : allDig w = d
    · rw [if_pos h, if_pos h]
    · rw [if_neg h, if_neg h]
      rcases hj with rfl | rfl <;> rfl
theorem glued_toks (j : Bs) (hj : j = [] ∨ j = [45]) (pt : Nat → Bool) : ∀ (l : List Bs) (i : Nat) (d : Bool) (p q : Bs) (pre : Bs), (∀ w ∈ l, Sort1 w) → Sort1 q →
    ptoks pre (⟨p, q⟩ :: gpcs j pt i d l) = ptoks pre (⟨p, q⟩ :: gpcs [45] pt i d l)
  | [], _, _, _, _, _, _, _ => rfl
  | w :: r, i, d, p, q, pre, hl, hq => by
    have e1 : nv (lower q) (gl (gpcs j pt i d (w :: r))) = nv (lower q) (gl (gpcs [45] pt i d (w :: r))) := by
      rw [nv_noabm hq.2.1 hq.2.2.1 hq.2.2.2, nv_noabm hq.2.1 hq.2.2.1 hq.2.2.2 (gl (gpcs [45] pt i d (w :: r)))]
    rw [ptoks, ptoks, e1, gpcs_nx j hj pt i d (w :: r)]
    congr 1
    have ih := glued_toks j hj pt r (i + 1) (allDig w) (if allDig w = d then (if pt i = true then [46] else [45]) else j) w (nx (gpcs [45] pt i d (w :: r))) (fun x hx => hl x (by simp [hx])) (hl w (by simp))
    generalize nx (gpcs [45] pt i d (w :: r)) = X at ih ⊢
    rw [gpcs, gpcs, ih]
    rfl
theorem gpcs_ok (j : Bs) (hj : j = [] ∨ j = [45]) (pt : Nat → Bool) : ∀ (l : List Bs) (i : Nat) (p q : Bs), (∀ w ∈ l, Sort1 w) → Sort1 q → PcOk (⟨p, q⟩ :: gpcs j pt i (allDig q) l)
  | [], _, _, q, _, hq => ⟨by obtain ⟨b, hb⟩ := hq.1; exact ⟨b, hb, trivial⟩, trivial⟩
  | w :: r, i, p, q, hl, hq => by
    have ih := gpcs_ok j hj pt r (i + 1) (if allDig w = allDig q then (if pt i = true then [46] else [45]) else j) w (fun x hx => hl x (by simp [hx])) (hl w (by simp))
    refine ⟨?_, ih⟩
    obtain ⟨b, hb⟩ := hq.1
    obtain ⟨b2, hb2⟩ := (hl w (by simp)).1
    refine ⟨b, hb, ?_⟩
    show ((if allDig w = allDig q then (if pt i = true then [46] else [45]) else j) = [] ∧ Hom w (!b)) ∨ _ ∨ _
    by_cases h : allDig w = allDig q
    · rw [if_pos h]
      right
      by_cases hp : pt i = true
      · right; rw [if_pos hp]
      · left; rw [if_neg hp]
    · rw [if_neg h]
      rcases hj with rfl | rfl
      · left
        refine ⟨rfl, ?_⟩
        rw [hom_allDig hb, hom_allDig hb2] at h
        have : b2 = !b := by cases b <;> cases b2 <;> first | rfl | exact absurd rfl h
        rw [← this]; exact hb2
      · right; left; rfl
theorem glued_law (j : Bs) (hj : j = [] ∨ j = [45]) (pt : Nat → Bool) {q : Bs} {l : List Bs} (hl : ∀ w ∈ l, Sort1 w) (hq : Sort1 q) :
    mvTokens (ptxt (⟨[], q⟩ :: gpcs j pt 1 (allDig q) l)) = mvTokens (ptxt (⟨[], q⟩ :: gpcs [45] pt 1 (allDig q) l)) := by
  rw [mvTokens_pcs rfl (gpcs_ok j hj pt l 1 [] q hl hq), mvTokens_pcs rfl (gpcs_ok [45] (.inr rfl) pt l 1 [] q hl hq), glued_toks j hj pt l 1 _ [] q [] hl hq]
end Go.Proofs.Mv
