/- Contracts of the reference's known tokens, of a token's place and null token, of the order of numbers and of qualifiers. -/
import Derived.Test.YtcehboopgjpfcaaGreatDoorS2
import Derived.Test.YtcehboopgjpfcaaGreatDoorV5
namespace Go.Proofs.Tz
open Go.RowKit Mv

def pOk (p : Bs) : Prop := p = [] ∨ p = [46] ∨ p = [45]
theorem any_asc : ∀ (v : Bs), (v.any fun c => decide (127 < c)) = !isAsc v
  | [] => rfl
  | c :: r => by
    have ih := any_asc r
    unfold isAsc at ih ⊢
    rw [List.any_cons, List.all_cons, ih, Bool.not_and]
    congr 1
    have : (127 < c) ↔ 127 < c.toNat := UInt8.lt_iff_toNat_lt
    by_cases h : c.toNat < 128
    · simp [h, this]; omega
    · simp [h, this]; omega
theorem tknown_eq {t : Tok} (hn : t.n = false) (hp : pOk t.p) : tknown t = if isAsc t.v = true then (if allDig t.v = true then (decide (t.v.length = 1) || decide (t.v.headD 0 ≠ 48)) else smallB t.v) else false := by
  have hany := any_asc t.v
  have hnp : ¬ (t.p ≠ [] ∧ t.p ≠ [46] ∧ t.p ≠ [45]) := by
    rintro ⟨h1, h2, h3⟩
    rcases hp with h | h | h
    · exact h1 h
    · exact h2 h
    · exact h3 h
  unfold tknown
  rw [hany]
  cases ha : isAsc t.v
  · rw [if_pos (by right; right; rfl), if_neg (by decide)]
  · rw [if_neg (by rintro (h | h | h); rw [hn] at h; cases h; exact hnp h; cases h), if_pos rfl]
    rfl

set_option maxHeartbeats 4000000 in
theorem known49 (t : Tok) (hn : t.n = false) (hp : pOk t.p) (hl : t.v.length ≤ 1000000) (w : World) :
    Calls Tryz.prog 49 #[tagg t] w fun e w' => e = .returned (.bool (tknown t)) ∧ Below w.heap.size w w' := by
  obtain ⟨R, hR⟩ : ∃ R, R = tknown t := ⟨_, rfl⟩
  rw [← hR]
  rw [tknown_eq hn hp] at hR
  obtain ⟨p, v, n⟩ := t
  have hn : n = false := hn
  subst hn
  have hR : R = if isAsc v = true then (if allDig v = true then (decide (v.length = 1) || decide (v.headD 0 ≠ 48)) else smallB v) else false := hR
  have HR := Lib.hid hR
  clear hR
  have hl : v.length ≤ 1000000 := hl
  have htl := str_toList
  have hss := str_size
  unfold tagg sv
  have hp : p = [] ∨ p = [46] ∨ p = [45] := hp
  have hB : Below w.heap.size w (w.alloc (Obj.cells #[Value.string (str p), Value.string (str v), Value.bool false] 40)) := (Below.refl _ _).alloc (Nat.le_refl _) _
  have HB := Lib.hid hB
  have h40 := fun w => ascii40 v (by omega) w
  have h60 := fun w => allDigits60 v (by omega) w
  have h65 := fun w => letters65 v w
  have H40 := Lib.hid h40
  have H60 := Lib.hid h60
  have H65 := Lib.hid h65
  clear hB h40 h60 h65
  have hix : ∀ c r, v = c :: r → ∀ w, (Instr.index 9 (.string (str v)) (.int .i64 0)).run Tryz.prog w = .ok (byt c) w := fun c r h w => by
    have := str_index (l := v) (i := 0) (c := c) (by rw [h]; rfl) w
    exact this
  have HIX := Lib.hid hix
  clear hix
  rcases hp with rfl | rfl | rfl
  all_goals
    go_enter Tryz.func49, Tryz.ntmps49
    go_wp2_with fail
    (with_reducible refine (H40.out _).mono ?_)
    rintro e w1 ⟨rfl, rfl⟩
    cases ha : isAsc v with
    | false =>
      go_wp2_with fail
      all_goals
        go_ret
        exact ⟨by rw [HR.out, ha]; rfl, HB.out⟩
    | true =>
      go_wp2_with fail
      (with_reducible refine (H60.out _).mono ?_)
      rintro e w1 ⟨rfl, rfl⟩
      cases hd : allDig v with
      | false =>
        go_wp2_with fail
        (with_reducible refine (H65.out _).mono ?_)
        rintro e w1 ⟨rfl, rfl⟩
        go_wp2_with fail
        go_ret
        exact ⟨by rw [HR.out, ha, hd]; rfl, HB.out⟩
      | true =>
        obtain ⟨c, r, hv⟩ := List.exists_cons_of_ne_nil ((allDig_iff v).1 hd).1
        by_cases h1 : v.length = 1
        · have b1 : ((v.length : Int) == 1) = true := by simp; omega
          have HV := Lib.hid h1
          clear h1 hv
          go_wp2_with fail
          go_ret
          exact ⟨by rw [HR.out, ha, hd, HV.out]; rfl, HB.out⟩
        · have b1 : ((v.length : Int) == 1) = false := by simp; omega
          have q2 := HIX.out c r hv
          unfold byt at q2
          have hhd : v.headD 0 = c := by rw [hv]; rfl
          have hsz : 0 < v.length := by rw [hv]; simp
          have HH := Lib.hid hhd
          have HV := Lib.hid h1
          clear hv hhd h1
          by_cases h48 : c = 48
          · have b2 : ((c.toNat : Int) != 48) = false := by rw [h48]; rfl
            have H48 := Lib.hid h48
            clear h48
            go_wp2_with fail
            go_ret
            exact ⟨by rw [HR.out, ha, hd, HH.out, H48.out, show decide (v.length = 1) = false from decide_eq_false HV.out]; rfl, HB.out⟩
          · have b2 : ((c.toNat : Int) != 48) = true := by
              simp only [bne_iff_ne, ne_eq]
              intro e
              exact h48 (UInt8.toNat_inj.1 (by show c.toNat = 48; omega))
            have H48 := Lib.hid h48
            clear h48
            go_wp2_with fail
            go_ret
            exact ⟨by rw [HR.out, ha, hd, HH.out, show decide (v.length = 1) = false from decide_eq_false HV.out, show decide (c ≠ 48) = true from decide_eq_true H48.out]; rfl, HB.out⟩

set_option maxHeartbeats 4000000 in
theorem known34 (v : Value) (ts : List Tok) (base : Nat) (w : World) (hT : Toks 40 w base v ts) (hl : ts.length ≤ 1000000) (hn : ∀ t ∈ ts, t.n = false ∧ pOk t.p ∧ t.v.length ≤ 1000000) :
    Calls Tryz.prog 34 #[v] w fun e w' => e = .returned (.bool (known ts)) ∧ Below w.heap.size w w' := by
  obtain ⟨ax, cx, rfl⟩ := toks_form hT
  have htl := str_toList
  have HT := Lib.hid hT
  have HN := Lib.hid hn
  clear hT hn
  go_enter Tryz.func34, Tryz.ntmps34
  go_wp2_with fail
  obtain ⟨wo, rfl⟩ : ∃ wo : World, wo = w := ⟨_, rfl⟩
  go_loopw [3] (fun x wr => ∃ i : Nat, x = .int .i64 (i : Int) ∧ i ≤ ts.length ∧ Hid (∀ k t, k < i → ts[k]? = some t → tknown t = true ∧ (t.p = [] ↔ k = 0)) ∧ Hid (Below wo.heap.size wo wr)) (fun x _ => ts.length - (intOf x).toNat)
  case atStart => exact ⟨0, rfl, Nat.zero_le _, Lib.hid (fun k t h => absurd h (by omega)), Lib.hid (Below.refl _ _)⟩
  case round =>
    obtain ⟨i, rfl, hi, H, HB⟩ := hrel
    by_cases hil : i < ts.length
    · obtain ⟨t, ht⟩ : ∃ t, ts[i]? = some t := ⟨_, List.getElem?_eq_getElem hil⟩
      obtain ⟨g, cap, hv, _, _, c0, c1, c2⟩ := toks_at (HT.out.below HB.out) ht
      injection hv with e1 e2 e3
      subst e1
      obtain ⟨n1, n2, n3⟩ := HN.out t (List.mem_of_getElem? ht)
      have hk : Calls Tryz.prog 49 #[.agg #[.string (str t.p), .string (str t.v), .bool t.n]] wr fun e w' => e = .returned (.bool (tknown t)) ∧ Below wr.heap.size wr w' := known49 t n1 n2 n3 wr
      have HK := Lib.hid hk
      have HTT := Lib.hid ht
      clear hk e2 e3 n1 n2 n3 ht
      go_wp2_with fail
      (with_reducible refine (HK.out).mono ?_)
      rintro e w1 ⟨rfl, hB1⟩
      have c0 := cell_keep hB1 c0
      have c1 := cell_keep hB1 c1
      have c2 := cell_keep hB1 c2
      have HB1 := Lib.hid (HB.out.trans (hB1.mono HB.out.size))
      clear hB1
      have hno : ∀ P : Prop, (known ts = true → P) → ¬ P → known ts = false := fun P h1 h2 => by
        cases h : known ts
        · rfl
        · exact absurd (h1 h) h2
      cases hkn : tknown t with
      | false =>
        have hf := hno _ (fun h => ((known_iff ts).1 h).2 i t HTT.out) (by rw [hkn]; simp)
        have HF := Lib.hid hf
        clear hf hno
        go_wp2_with fail
        all_goals
          go_ret
          exact ⟨by rw [HF.out]; rfl, HB1.out⟩
      | true =>
        by_cases hpi : t.p = [] ↔ i = 0
        · have HNX : Hid (∀ k u, k < i + 1 → ts[k]? = some u → tknown u = true ∧ (u.p = [] ↔ k = 0)) := Lib.hid fun k u hk hu => by
            by_cases e : k = i
            · subst e
              have := HTT.out.symm.trans hu
              injection this with this
              subst this
              exact ⟨hkn, hpi⟩
            · exact H.out k u (by omega) hu
          by_cases h0 : i = 0
          · have e1 : t.p.isEmpty = true := by rw [hpi.2 h0]; rfl
            subst h0
            clear hno hpi
            go_wp2_with fail
            go_roundw
            case rel => exact ⟨0 + 1, by go_num, by omega, HNX, HB1⟩
            case measure => simp [intOf]; omega
          · have e1 : t.p.isEmpty = false := by
              have h1 : t.p ≠ [] := fun e => h0 (hpi.1 e)
              simpa using h1
            have e2 : ((i : Int) == 0) = false := by simpa using h0
            clear hno hpi
            go_wp2_with fail
            go_roundw
            case rel => exact ⟨i + 1, by go_num, by omega, HNX, HB1⟩
            case measure => simp [intOf]; omega
        · have hf := hno _ (fun h => (((known_iff ts).1 h).2 i t HTT.out).2) hpi
          have HF := Lib.hid hf
          by_cases h0 : i = 0
          · have e1 : t.p.isEmpty = false := by
              have h1 : t.p ≠ [] := fun e => hpi ⟨fun _ => h0, fun _ => e⟩
              simpa using h1
            subst h0
            clear hf hno hpi
            go_wp2_with fail
            go_ret
            exact ⟨by rw [HF.out]; rfl, HB1.out⟩
          · have e1 : t.p.isEmpty = true := by
              by_cases e : t.p = []
              · rw [e]; rfl
              · exact absurd ⟨fun h => absurd h e, fun h => absurd h h0⟩ hpi
            have e2 : ((i : Int) == 0) = false := by simpa using h0
            clear hf hno hpi
            go_wp2_with fail
            go_ret
            exact ⟨by rw [HF.out]; rfl, HB1.out⟩
    · have hf : known ts = decide (0 < ts.length) := by
        cases hk : known ts
        · cases ts with
          | nil => rfl
          | cons x xs =>
            have := (known_iff (x :: xs)).2 ⟨by simp, fun k t ht => H.out k t (by have := (List.getElem?_eq_some_iff.1 ht).1; omega) ht⟩
            rw [this] at hk; cases hk
        · cases ts with
          | nil => simp [known] at hk
          | cons x xs => simp
      have HF := Lib.hid hf
      clear hf
      go_wp2_with fail
      go_ret
      exact ⟨by rw [HF.out]; simp, HB.out⟩
end Go.Proofs.Tz
