/- Contracts of short and tails; the walk of FnMavenInner. -/
import Derived.Test.YtcehboopgjpfcaaGreatDoorL7
namespace Go.Proofs.Mv
theorem nums_raw {V : Nat} {l : Bs} (h : ∀ t ∈ rawT l, allDig t.v = true → dval t.v < V) : Go.Proofs.Tz.Nums V l := fun t ht hd => h t (by rw [tokR_tokL] at ht; exact ht) hd
theorem raw_num_small {V : Nat} {ns : List Nat} (h0 : ns ≠ []) (h : ∀ n ∈ ns, n < V) : ∀ t ∈ rawT (numTxt ns), allDig t.v = true → dval t.v < V := by
  rw [raw_num h0]
  have : ∀ (l : List Nat) (p : Bs), (∀ n ∈ l, n < V) → ∀ t ∈ numToks p l, allDig t.v = true → dval t.v < V := by
    intro l
    induction l with
    | nil => intro p _ t ht; simp [numToks] at ht
    | cons n r ih =>
      intro p hl t ht hd
      rcases List.mem_cons.1 ht with rfl | ht
      · show dval (dec n) < V; rw [dval_dec]; exact hl n (by simp)
      · exact ih [46] (fun m hm => hl m (by simp [hm])) t ht hd
  exact this ns [] h
theorem null_small {V : Nat} (hV : 0 < V) {t : Tok} (h : isNull t = true) : allDig t.v = true → dval t.v < V := by
  intro hd
  simp only [isNull, Bool.or_eq_true, decide_eq_true_eq] at h
  rcases h with h | h
  · rw [h]; exact hV
  · rw [h] at hd; cases hd
theorem raw_tails_small {V : Nat} (hV : 0 < V) {s : Bs} (h : ∀ t ∈ rawT s, allDig t.v = true → dval t.v < V) {ts : List Bs} (ht : ∀ t ∈ ts, t ∈ tailsL) : ∀ t ∈ rawT (s ++ ts.flatten), allDig t.v = true → dval t.v < V := by
  obtain ⟨zs, h1, h2⟩ := rawT_tails s ts ht
  rw [h1]
  intro t hm hd
  rcases List.mem_append.1 hm with hm | hm
  · exact h t hm hd
  · exact null_small hV (h2 t hm) hd
theorem nv_word_small {V : Nat} {q : Bs} (h : Hom q false) (b : Bool) : allDig (nv (lower q) b) = true → dval (nv (lower q) b) < V := by
  intro hd
  exfalso
  have hl := hom_lower h
  unfold nv at hd
  rw [if_neg hl.1, if_neg (by rw [allDig_no hl]; decide)] at hd
  repeat' split at hd
  all_goals first | (exact absurd hd (by decide)) | (rw [allDig_no hl] at hd; cases hd)
theorem raw_word_small {V : Nat} {s q : Bs} {d : UInt8} (hd : isMark d = true) (h : ∀ t ∈ rawT s, allDig t.v = true → dval t.v < V) (hq : Hom q false) : ∀ t ∈ rawT (s ++ d :: q), allDig t.v = true → dval t.v < V := by
  rw [rawT_mark hd, tokL_hom hq]
  intro t hm hg
  rcases List.mem_append.1 hm with hm | hm
  · exact h t hm hg
  · simp at hm; subst hm; exact nv_word_small hq false hg
end Go.Proofs.Mv
namespace Go.Proofs.Tz
open Go.RowKit Mv

theorem asc_append {a b : Bs} (ha : Asc a) (hb : Asc b) : Asc (a ++ b) := fun c hc => by
  rcases List.mem_append.1 hc with h | h
  · exact ha c h
  · exact hb c h
theorem asc_num : ∀ (ns : List Nat), Asc (numTxt ns)
  | [] => fun c hc => by simp [numTxt, numPcs, ptxt] at hc
  | [n] => by rw [numTxt_one]; exact fun c hc => asc_dig (dec_dig n c hc)
  | n :: m :: r => by
    rw [numTxt_cons]
    refine asc_append (fun c hc => asc_dig (dec_dig n c hc)) fun c hc => ?_
    rcases List.mem_cons.1 hc with rfl | hc
    · decide
    · exact asc_num (m :: r) c hc
theorem asc_tails {ts : List Bs} (h : ∀ t ∈ ts, t ∈ tailsL) : Asc ts.flatten := by
  intro c hc
  obtain ⟨t, ht, hc⟩ := List.mem_flatten.1 hc
  have h1 := h t ht
  have h2 : tailsL.all (fun t => t.all fun c => decide (c.toNat < 128)) = true := by decide
  have := List.all_eq_true.1 (List.all_eq_true.1 h2 t h1) c hc
  simpa using this
theorem asc_word {q : Bs} (h : isWord q = true) : Asc q := fun c hc => by
  have := (isLet_iff c).1 (((isWord_iff q).1 h).2 c hc); omega
theorem tails_len {ts : List Bs} (h : ∀ t ∈ ts, t ∈ tailsL) : ts.flatten.length ≤ ts.length * 8 := by
  induction ts with
  | nil => simp
  | cons t r ih =>
    have h2 : tailsL.all (fun t => decide (t.length ≤ 8)) = true := by decide
    have h1 := List.all_eq_true.1 h2 t (h t (by simp))
    have := ih (fun x hx => h x (by simp [hx]))
    simp only [decide_eq_true_eq] at h1
    simp only [List.flatten_cons, List.length_append, List.length_cons]; omega

/-- A slice that reads as texts. -/
def RowS (w : World) (a : Option Addr) (L : List Bs) : Prop := ∀ (i : Nat) (s : Bs), L[i]? = some s → ∃ b o, a = some ⟨b, o, none⟩ ∧ w.cell? ⟨b, o + i, none⟩ = some (.string (str s))
def shortB (L : List Bs) : Bool := L.all (fun s => decide (s.length ≤ 1200)) && decide (L.length ≤ 60)

set_option maxHeartbeats 2000000 in
theorem short_any (a : Option Addr) (c : Nat) (L : List Bs) (hl : L.length ≤ 1000000000) (w : World) (h : RowS w a L) : Calls Tryz.prog 17 #[.slice a L.length c] w fun e w' => e = .returned (.bool (shortB L)) ∧ w = w' := by
  have H := Lib.hid h
  have hss := str_size
  clear h
  go_enter Tryz.func17, Tryz.ntmps17
  go_wp2_with fail
  go_loop [4, 7] (fun z x => ∃ (zv : Value) (i : Nat), zv = z ∧ x = .int .i64 (i : Int) ∧ i ≤ L.length ∧ Hid (∀ s ∈ L.take i, s.length ≤ 1200)) (fun _ x => L.length - (intOf x).toNat)
  case atStart => exact ⟨_, 0, rfl, rfl, Nat.zero_le _, Lib.hid (by simp)⟩
  case round =>
    obtain ⟨zv, i, rfl, rfl, hi, J⟩ := hrel
    by_cases hil : i < L.length
    · obtain ⟨s, hs⟩ : ∃ s, L[i]? = some s := ⟨_, List.getElem?_eq_getElem hil⟩
      obtain ⟨b, o, hb, hc⟩ := H.out i s hs
      subst hb
      have HS := Lib.hid hs
      clear hs
      by_cases h12 : s.length ≤ 1200
      · have HN := Lib.hid (take_all' J.out HS.out h12)
        go_wp2_with fail
        go_round
        case rel => exact ⟨_, i + 1, rfl, by go_num, by omega, HN⟩
        case measure => simp [intOf]; omega
      · have hf : shortB L = false := by
          cases hsb : shortB L
          · rfl
          · simp only [shortB, Bool.and_eq_true, List.all_eq_true, decide_eq_true_eq] at hsb
            exact absurd (hsb.1 s (List.mem_of_getElem? HS.out)) h12
        have HF := Lib.hid hf
        have h13 : 1200 < s.length := by omega
        clear hf h12
        go_wp2_with fail
        go_ret
        exact ⟨by rw [HF.out]; rfl, rfl⟩
    · have hall : ∀ s ∈ L, s.length ≤ 1200 := by
        have := J.out
        rwa [List.take_of_length_le (by omega)] at this
      have hf : shortB L = decide (L.length ≤ 60) := by
        have : L.all (fun s => decide (s.length ≤ 1200)) = true := List.all_eq_true.2 fun s hs => by simpa using hall s hs
        rw [shortB, this, Bool.true_and]
      have HF := Lib.hid hf
      clear hall hf
      go_wp2_with fail
      go_ret
      exact ⟨by rw [HF.out]; simp; omega, rfl⟩

set_option maxHeartbeats 1000000 in
theorem tails_any (w : World) : Calls Tryz.prog 24 #[] w fun e w' => e = .returned (.slice (some ⟨w.heap.size, 0, none⟩) 9 9) ∧ Arr w' w.heap.size 9 (svs tailsL) ∧ Below w.heap.size w w' := by
  go_enter Tryz.func24, Tryz.ntmps24
  go_wp2_with fail
  go_ret
  exact ⟨rfl, Arr.new w 9 (svs tailsL), (Below.refl _ _).alloc (Nat.le_refl _) _⟩

/-- The end that a byte chooses. -/
def tl (k : Nat) : Bs := tailsL.getD (k % 9) []
theorem tl_mem (k : Nat) : tl k ∈ tailsL := by
  have h : k % 9 < tailsL.length := Nat.mod_lt _ (by decide)
  rw [tl, List.getD_eq_getElem?_getD, List.getElem?_eq_getElem h]
  exact List.getElem_mem h
end Go.Proofs.Tz
