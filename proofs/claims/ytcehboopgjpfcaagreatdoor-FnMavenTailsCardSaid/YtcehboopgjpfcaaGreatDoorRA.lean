/- R1 R2 R3 in one text. -/
import Derived.Test.YtcehboopgjpfcaaGreatDoorAA
import Derived.ChangeSlices
import Derived.RowKit
import Derived.ChangeMaps5
import Derived.ChangeSame
import Derived.LaidLaws
import Derived.Test.YtcehboopgjpfcaaGreatDoorRows
import Derived.Test.YtcehboopgjpfcaaGreatDoorEA
import Derived.Stop.ErrReads
import Derived.Test.YtcehboopgjpfcaaGreatDoorL5
/- Reading arguments again in a world that has grown; no program of its own. -/
namespace Go.Proofs.Tz
open Go.RowKit Go.ChangeShapes Go.WideShapes

section
variable {H : Type} {enc : TypeId × Value → H} {P : Program} {W W' : World}

/-- Is the reading of a type's cells the same in whatever world? -/
def Flat (enc : TypeId × Value → H) (P : Program) (e : TypeId) : Prop := ∀ (W W' : World) (sp : Nat → Bool) (n : Nat) (cs : List Value) (y : DataW H × List MemPlace),
  DataW.trod enc P W 0 (fun _ => true) true n e cs = some y → DataW.trod enc P W' 0 sp true n e cs = some y
theorem flat_int {e : TypeId} {k : IntKind} (he : P.underlying e = some (.int k)) : Flat enc P e := by
  intro W W' sp n cs y h
  cases n with
  | zero => simp [DataW.trod] at h
  | succ n =>
    obtain ⟨m, rfl, rfl, hw⟩ := DataW.trod_int he h
    exact trod_int_mk n he hw
theorem flat_bool {e : TypeId} (he : P.underlying e = some .bool) : Flat enc P e := by
  intro W W' sp n cs y h
  cases n with
  | zero => simp [DataW.trod] at h
  | succ n =>
    obtain ⟨m, rfl, rfl⟩ := DataW.trod_bool he h
    simp [DataW.trod, he]
theorem flat_string {e : TypeId} (he : P.underlying e = some .string) : Flat enc P e := by
  intro W W' sp n cs y h
  cases n with
  | zero => simp [DataW.trod] at h
  | succ n =>
    obtain ⟨m, rfl, rfl, hs⟩ := DataW.trod_string he h
    simp [DataW.trod, he, hs]

/-- A slice of one-cell elements reads again in a world that has grown. -/
theorem slice_again {t e : TypeId} (ht : P.underlying t = some (.slice e)) (hc : P.cellsOf e = 1) (hf : Flat enc P e) (hb : Below W.heap.size W W') {v : Value} {d : DataW H} {p : List MemPlace}
    (h : DataW.Trod enc P W 0 (fun _ => true) true t v d p) (hv : ∃ a l c, v = .slice a l c) (sp : Nat → Bool) (hsp : ∀ q ∈ p, sp q.block = true) : DataW.Trod enc P W' 0 sp true t v d p := by
  obtain ⟨fuel, h⟩ := h
  obtain ⟨a0, l0, c0, rfl⟩ := hv
  rcases DataW.trod_slice ht h with ⟨hcs, hx⟩ | ⟨a, len, cap, elems, rest, n, rfl, hcs, hx, hba, hl, hm, hlen, hel, hr, _⟩
  · simp [Value.cells] at hcs
    obtain ⟨rfl, rfl, rfl⟩ := hcs
    simp only [Prod.mk.injEq] at hx
    obtain ⟨rfl, rfl⟩ := hx
    exact shut_slice_nil ht
  · obtain ⟨hrl, hr⟩ := hr rfl
    simp [Value.cells] at hcs
    obtain ⟨rfl, rfl, rfl⟩ := hcs
    have step : ∀ i y, (W.cells? 0 (a.add (i * P.cellsOf e)) (P.cellsOf e)).bind (DataW.trod enc P W 0 (fun _ => true) true n e) = some y →
        (W'.cells? 0 (a.add (i * P.cellsOf e)) (P.cellsOf e)).bind (DataW.trod enc P W' 0 sp true n e) = some y := by
      intro i y hy
      rw [hc] at hy ⊢
      rw [Option.bind_eq_some_iff] at hy
      obtain ⟨cs', h1, h2⟩ := hy
      have hlen1 : ∃ c, cs' = [c] := by
        unfold World.cells? at h1
        split at h1
        · simp only [List.range_succ, List.range_zero, List.nil_append, List.mapM_cons, List.mapM_nil, Option.bind_eq_bind, Option.pure_def, Option.bind_some, Option.bind_eq_some_iff, Option.some.injEq] at h1
          obtain ⟨c, _, rfl⟩ := h1
          exact ⟨c, rfl⟩
        · cases h1
      obtain ⟨c, rfl⟩ := hlen1
      have h3 := cell_of_cells?_one h1
      have h4 : W'.cell? (a.add (i * 1)) = some c := (hb.cell (World.block_lt_of_cell? W _ h3)).trans h3
      rw [cells?_one (Nat.zero_le _) h4]
      exact hf W W' sp n _ _ h2
    refine ⟨n + 1, ?_⟩
    show DataW.trod enc P W' 0 sp true (n + 1) t [.slice (some a) l0 c0] = some (d, p)
    rw [DataW.trod_step]
    unfold DataW.trodStep
    simp only [ht]
    rw [if_pos ⟨Nat.zero_le _, hl, hm⟩]
    have g1 : (List.range l0).mapM (fun i => (W'.cells? 0 (a.add (i * P.cellsOf e)) (P.cellsOf e)).bind (DataW.trod enc P W' 0 sp true n e)) = some elems := by
      rw [mapM_range_of (g := fun i => elems.getD i (d, p)) l0 (fun i hi => step i _ (by rw [hel i hi, List.getD, List.getElem?_eq_getElem (by omega)]; rfl))]
      congr 1
      apply List.ext_getElem?
      intro i
      by_cases hi : i < l0
      · simp [hi, List.getD, show i < elems.length by omega]
      · simp [hi, show elems.length ≤ i by omega]
    have g2 : (List.range (c0 - l0)).mapM (fun j => (W'.cells? 0 (a.add ((l0 + j) * P.cellsOf e)) (P.cellsOf e)).bind (DataW.trod enc P W' 0 sp true n e)) = some rest := by
      rw [mapM_range_of (g := fun i => rest.getD i (d, p)) (c0 - l0) (fun i hi => step (l0 + i) _ (by rw [hr i hi, List.getD, List.getElem?_eq_getElem (by omega)]; rfl))]
      congr 1
      apply List.ext_getElem?
      intro i
      by_cases hi : i < c0 - l0
      · simp [hi, List.getD, show i < rest.length by omega]
      · simp [hi, show rest.length ≤ i by omega]
    rw [g1]
    simp only [Option.bind_some]
    by_cases hs : sp a.block = true
    · rw [if_pos hs, g2]
      simp only [Option.map_some]
      rw [← hx]
    · have hcap : c0 = 0 := by
        by_cases h0 : c0 = 0
        · exact h0
        · exfalso
          apply hs
          have hp : p = MemPlace.row a ((elems.length + rest.length) * P.cellsOf e) ++ (elems ++ rest).flatMap (·.2) := congrArg Prod.snd hx
          exact hsp (.cell a.block a.off) (by rw [hp, hc, Nat.mul_one]; exact List.mem_append_left _ (MemPlace.mem_row.2 ⟨0, by omega, by simp⟩))
      have hr0 : rest = [] := List.eq_nil_of_length_eq_zero (by omega)
      rw [if_neg hs]
      simp only [Option.map_some]
      rw [hx, hr0]

/-! ### Listed variables -/
theorem laidVars_row {w : World} : ∀ {l : List (String × DataW Unit)} {ps : List MemPlace}, DataW.LaidVars P w l ps → ∀ n d, (n, d) ∈ l →
    ∃ g t cs fuel p, P.globalNamed n = some g ∧ (P.globals[g]?).map (·.type) = some t ∧ w.var? P n = some cs ∧ DataW.trod (fun _ => ()) P w 0 (fun _ => true) false fuel t cs.toList = some (d, p) ∧ ∀ x ∈ MemPlace.row ⟨g, 0, none⟩ cs.size, x ∈ ps
  | [], _, _, _, _, hm => by cases hm
  | (n', d') :: r, ps, h, n, d, hm => by
    obtain ⟨g, t, cs, fuel, p, q, h1, h2, h3, h4, h5, h6⟩ := h
    rcases List.mem_cons.1 hm with e | e
    · cases e
      exact ⟨g, t, cs, fuel, p, h1, h2, h3, h4, fun x hx => by rw [h6]; simp [hx]⟩
    · obtain ⟨g', t', cs', f', p', k1, k2, k3, k4, k5⟩ := laidVars_row h5 n d e
      exact ⟨g', t', cs', f', p', k1, k2, k3, k4, fun x hx => by rw [h6]; simp [k5 x hx]⟩
/-- An error made of one literal, that is listed. -/
theorem sentinel_cell {l : List (String × DataW Unit)} {w : World} (h : laidMet P l w) {n : String} {text : List UInt8} (hm : (n, .iface "*errors.errorString" (.ptr (.agg [.lit (.string text)]))) ∈ l)
    {g ti tp te ts : Nat} {ms : Array (String × TypeId)} {f : Field} (hg : P.globalNamed n = some g) (ht : (P.globals[g]?).map (·.type) = some ti) (hi : P.underlying ti = some (.interface ms))
    (hrow : ∀ u, P.typeName? 3 u = some "*errors.errorString" → u = tp) (hp : P.underlying tp = some (.pointer te)) (he : P.underlying te = some (.struct #[f])) (hft : f.type = ts) (hfo : f.offset = 0)
    (hs : P.underlying ts = some .string) (hc : P.cellsOf te = 1) (hcs : P.cellsOf ts = 1) : ∃ a, w.cell? ⟨g, 0, none⟩ = some (.iface tp (.pointer (some a))) := by
  obtain ⟨ps, hv, _, hrows⟩ := h
  obtain ⟨g', t', cs, fuel, p, h1, h2, h3, h4, h5⟩ := laidVars_row hv n _ hm
  obtain rfl := Option.some.inj (hg.symm.trans h1)
  obtain rfl := Option.some.inj (ht.symm.trans h2)
  obtain ⟨l⟩ := cs
  have ok : ∀ u v, l = [.iface u v] → Value.okWide P w .any 0 u v := fun u v e => by
    subst e
    exact (hrows g 0 (h5 _ (by simp [MemPlace.row]))).2 u v (by simpa using World.var?_cell h1 h3 0)
  obtain ⟨a, s, rfl, _⟩ := errorString_of_trod hi hrow hp he hft hfo hs hc hcs h4 ok
  exact ⟨a, by simpa using World.var?_cell h1 h3 0⟩
/-- A whole number that is listed. -/
theorem int_cell {l : List (String × DataW Unit)} {w : World} (h : laidMet P l w) {n : String} {k : IntKind} {z : Int} (hm : (n, .lit (.int k z)) ∈ l) {g ti : Nat} (hg : P.globalNamed n = some g)
    (ht : (P.globals[g]?).map (·.type) = some ti) (hi : P.underlying ti = some (.int k)) : w.cell? ⟨g, 0, none⟩ = some (.int k z) := by
  obtain ⟨ps, hv, _, hrows⟩ := h
  obtain ⟨g', t', cs, fuel, p, h1, h2, h3, h4, h5⟩ := laidVars_row hv n _ hm
  obtain rfl := Option.some.inj (hg.symm.trans h1)
  obtain rfl := Option.some.inj (ht.symm.trans h2)
  obtain ⟨l⟩ := cs
  obtain ⟨m, hl, hx, _⟩ := DataW.trod_int hi h4
  simp only [Prod.mk.injEq, DataW.lit.injEq, Lit.int.injEq, true_and] at hx
  obtain ⟨rfl, _⟩ := hx
  have hl : l = [.int k z] := hl
  subst hl
  simpa using World.var?_cell h1 h3 0
end
end Go.Proofs.Tz

/- What the listed variables hold, out of a row's list; no law. -/
namespace Go.Proofs.Tz
open Go.RowKit Mv Go.Proofs.YtcehboopgjpfcaaGreatDoor

theorem star : "*" ++ "errors.errorString" = "*errors.errorString" := by decide
theorem row296 (u : TypeId) (h : Tryz.prog.typeName? 3 u = some "*errors.errorString") : u = 296 :=
  typeName_ptr_named (nm := "errors.errorString") (by rw [star]; kernel_rfl) (by kernel_rfl) (by decide) u (by rw [star]; exact h)
theorem cells9 : Tryz.prog.cellsOf 9 = 1 := by kernel_rfl

theorem sentinel_at {l : List (String × DataW Unit)} {w : World} (h : laidMet Tryz.prog l w) {n : String} {text : List UInt8} (hm : (n, .iface "*errors.errorString" (.ptr (.agg [.lit (.string text)]))) ∈ l)
    {g : Nat} (hg : Tryz.prog.globalNamed n = some g) (ht : (Tryz.prog.globals[g]?).map (·.type) = some 71) : ∃ a, w.cell? ⟨g, 0, none⟩ = some (ifp a) := by
  exact sentinel_cell h hm hg ht Tryz.underlying71 row296 Tryz.underlying296 Tryz.underlying311 rfl rfl Tryz.underlying9 (by kernel_rfl) cells9

theorem envL_of {l : List (String × DataW Unit)} {w : World} (h : laidMet Tryz.prog l w) (m1 : ("io.EOF", Rows.laid_io_EOF) ∈ l) (m2 : ("pub-primogeniture/pub/bigall.errNoDigits", Rows.laid_pub_primogeniture_pub_bigall_errNoDigits) ∈ l)
    (m3 : ("pub-primogeniture/pub/scalibr/semantic.ErrInvalidVersion", Rows.laid_pub_primogeniture_pub_scalibr_semantic_ErrInvalidVersion) ∈ l)
    (m4 : ("pub-primogeniture/pub/bigall.leafSize", Rows.laid_pub_primogeniture_pub_bigall_leafSize) ∈ l) (m5 : ("pub-primogeniture/pub/bigall.karatsubaThreshold", Rows.laid_pub_primogeniture_pub_bigall_karatsubaThreshold) ∈ l)
    (m6 : ("pub-primogeniture/pub/bigall.divRecursiveThreshold", Rows.laid_pub_primogeniture_pub_bigall_divRecursiveThreshold) ∈ l) (m7 : ("pub-primogeniture/pub/bigall.basicSqrThreshold", Rows.laid_pub_primogeniture_pub_bigall_basicSqrThreshold) ∈ l)
    (m8 : ("pub-primogeniture/pub/bigall.karatsubaSqrThreshold", Rows.laid_pub_primogeniture_pub_bigall_karatsubaSqrThreshold) ∈ l) : EnvL w := by
  have h16 := int_cell h m5 (g := 16) (ti := 3) (by kernel_rfl) (by kernel_rfl) Tryz.underlying3
  exact ⟨⟨sentinel_at h m1 (by kernel_rfl) (by kernel_rfl), sentinel_at h m2 (by kernel_rfl) (by kernel_rfl), sentinel_at h m3 (by kernel_rfl) (by kernel_rfl), World.block_lt_of_cell? w _ h16⟩,
    int_cell h m4 (g := 8) (ti := 3) (by kernel_rfl) (by kernel_rfl) Tryz.underlying3, int_cell h m7 (g := 13) (ti := 3) (by kernel_rfl) (by kernel_rfl) Tryz.underlying3,
    int_cell h m8 (g := 14) (ti := 3) (by kernel_rfl) (by kernel_rfl) Tryz.underlying3, int_cell h m6 (g := 15) (ti := 3) (by kernel_rfl) (by kernel_rfl) Tryz.underlying3⟩
end Go.Proofs.Tz

/- What slices of numbers and bools read as; the row's last step; no law. -/
namespace Go.Proofs.Tz
open Go.RowKit Go.ChangeShapes Go.WideShapes

section
variable {H : Type} {enc : TypeId × Value → H} {P : Program} {W : World}

theorem slice_cells {t e : TypeId} (ht : P.underlying t = some (.slice e)) (hc : P.cellsOf e = 1) {a0 : Option Addr} {l0 c0 : Nat} {d : DataW H} {p : List MemPlace}
    (h : DataW.Trod enc P W 0 (fun _ => true) true t (.slice a0 l0 c0) d p) : l0 ≤ maxLen ∧ ∀ i, i < l0 → ∃ b o c n y, a0 = some ⟨b, o, none⟩ ∧ W.cell? ⟨b, o + i, none⟩ = some c ∧ DataW.trod enc P W 0 (fun _ => true) true n e [c] = some y := by
  obtain ⟨fuel, h⟩ := h
  rcases DataW.trod_slice ht h with ⟨hcs, hx⟩ | ⟨a, len, cap, elems, rest, n, rfl, hcs, hx, hba, hl, hm, hlen, hel, hr, _⟩
  · simp [Value.cells] at hcs
    obtain ⟨rfl, rfl, rfl⟩ := hcs
    exact ⟨by unfold maxLen; omega, fun i hi => by omega⟩
  · simp [Value.cells] at hcs
    obtain ⟨rfl, rfl, rfl⟩ := hcs
    have all : ∀ i, i < l0 → ∃ c y, W.cell? (a.add i) = some c ∧ DataW.trod enc P W 0 (fun _ => true) true n e [c] = some y := by
     intro i hi
     have h1 := hel i hi
     rw [hc, Nat.mul_one, List.getElem?_eq_getElem (by omega), Option.bind_eq_some_iff] at h1
     obtain ⟨cs', h1, h2⟩ := h1
     have hlen1 : ∃ c, cs' = [c] := by
       unfold World.cells? at h1
       split at h1
       · simp only [List.range_succ, List.range_zero, List.nil_append, List.mapM_cons, List.mapM_nil, Option.bind_eq_bind, Option.pure_def, Option.bind_some, Option.bind_eq_some_iff, Option.some.injEq] at h1
         obtain ⟨c, _, rfl⟩ := h1
         exact ⟨c, rfl⟩
       · cases h1
     obtain ⟨c, rfl⟩ := hlen1
     exact ⟨c, _, cell_of_cells?_one h1, h2⟩
    refine ⟨by omega, fun i hi => ?_⟩
    obtain ⟨b, off, spot⟩ := a
    obtain ⟨_, _, k0, _⟩ := all 0 (by omega)
    have hspot : spot = none := by simpa [Addr.add] using World.cell?_spot k0
    subst hspot
    obtain ⟨c, y, h3, h2⟩ := all i hi
    exact ⟨b, off, c, n, y, rfl, by rw [← add_plain]; exact h3, h2⟩
theorem list_of {α : Type} (_ : α) (n : Nat) (Q : Nat → α → Prop) (h : ∀ i, i < n → ∃ x, Q i x) : ∃ L : List α, L.length = n ∧ ∀ (i : Nat) (x : α), L[i]? = some x → Q i x := by
  induction n with
  | zero => exact ⟨[], rfl, fun i x hx => by simp at hx⟩
  | succ n ih =>
    obtain ⟨L, h1, h2⟩ := ih (fun i hi => h i (by omega))
    obtain ⟨x, hx⟩ := h n (by omega)
    refine ⟨L ++ [x], by simp [h1], fun i y hy => ?_⟩
    by_cases hi : i < L.length
    · rw [List.getElem?_append_left hi] at hy; exact h2 i y hy
    · rw [List.getElem?_append_right (by omega)] at hy
      have : i - L.length = 0 := by
        by_cases h0 : i - L.length = 0
        · exact h0
        · rw [List.getElem?_eq_none (by simp; omega)] at hy; cases hy
      rw [this] at hy
      simp at hy
      subst hy
      rw [show i = n by omega]; exact hx
theorem rowB_of {t e : TypeId} (ht : P.underlying t = some (.slice e)) (he : P.underlying e = some .bool) (hc : P.cellsOf e = 1) {a0 : Option Addr} {l0 c0 : Nat} {d : DataW H} {p : List MemPlace}
    (h : DataW.Trod enc P W 0 (fun _ => true) true t (.slice a0 l0 c0) d p) : ∃ L : List Bool, L.length = l0 ∧ RowB W a0 L := by
  obtain ⟨_, h⟩ := slice_cells ht hc h
  refine list_of false l0 _ fun i hi => ?_
  obtain ⟨b, o, c, n, y, h1, h2, h3⟩ := h i hi
  obtain ⟨bb, hb, _⟩ := DataW.trod_bool he h3
  simp only [List.cons.injEq, and_true] at hb
  subst hb
  exact ⟨bb, b, o, h1, h2⟩
theorem rowN_of {t e : TypeId} {k : IntKind} (ht : P.underlying t = some (.slice e)) (he : P.underlying e = some (.int k)) (hc : P.cellsOf e = 1) {V : Nat} (hk : ∀ z : Int, (Lit.int k z).wf = true → 0 ≤ z ∧ z < (V : Int)) {a0 : Option Addr} {l0 c0 : Nat} {d : DataW H} {p : List MemPlace}
    (h : DataW.Trod enc P W 0 (fun _ => true) true t (.slice a0 l0 c0) d p) : ∃ L : List Nat, L.length = l0 ∧ RowN k W a0 L ∧ ∀ n ∈ L, n < V := by
  obtain ⟨_, h⟩ := slice_cells ht hc h
  obtain ⟨L, h1, h2⟩ := list_of (0 : Nat) l0 (fun i (n : Nat) => (∃ b o, a0 = some ⟨b, o, none⟩ ∧ W.cell? ⟨b, o + i, none⟩ = some (.int k (n : Int))) ∧ n < V) fun i hi => by
    obtain ⟨b, o, c, n, y, h1, h2, h3⟩ := h i hi
    obtain ⟨z, hb, _, hw⟩ := DataW.trod_int he h3
    simp only [List.cons.injEq, and_true] at hb
    subst hb
    obtain ⟨w1, w2⟩ := hk z hw
    exact ⟨z.toNat, ⟨b, o, h1, by rw [h2]; congr 2; omega⟩, by omega⟩
  refine ⟨L, h1, fun i n hn => (h2 i n hn).1, fun n hn => ?_⟩
  obtain ⟨i, hi⟩ := List.getElem?_of_mem hn
  exact (h2 i n hi).2

/-- The last step of a row whose call left a grown world behind. -/
theorem post_grown {f : Func} {s : ChangeSpec} {apart fresh handsOn again : Bool} {W' : World} {args : Array Value} {v : Value} {ds gs : List (DataW H)} {before pa pv : List MemPlace}
    (hW : DataW.Whole enc P f.params.toList s.vars apart W args.toList ds gs before)
    (hres : ∀ (b : Nat) (sp : Nat → Bool) (hd : Bool), DataW.TrodAll enc P W' b sp hd f.resultTypes.toList (v.resultList f.resultTypes.size) (s.fn H (ds ++ gs)).results [])
    (hargs : ∀ sp : Nat → Bool, (∀ p ∈ before, sp p.block = true) → DataW.TrodAll enc P W' 0 sp true f.params.toList args.toList (s.fn H (ds ++ gs)).args pa)
    (hvars : ∀ sp : Nat → Bool, (∀ p ∈ before, sp p.block = true) → DataW.TrodVars enc P W' sp s.vars (s.fn H (ds ++ gs)).vars pv) (hps : before = pa ++ pv) (hb : Below W.heap.size W W')
    (hok : ∀ (j : Nat) (t : TypeId) (r : Value), f.resultTypes[j]? = some t → (v.resultList f.resultTypes.size)[j]? = some r → Value.okWide P W' .any 0 t r) :
    s.post enc P f apart fresh handsOn again W args v W' := by
  have hlt := fun p (hp : p ∈ before) => hW.lt p hp
  have hold : ∀ p ∈ before, (fun b => decide (b < W.heap.size)) p.block = true := fun p hp => by simpa using hlt p hp
  refine ⟨ds, gs, before, [], pa, pv, hW, hres _ _ _, hargs _ hold, hvars _ hold, World.keptBut_mono (fun p hp => ⟨hp, .inr ?_⟩) (hb.frame (· ∈ before)), fun _ => ?_⟩
  · rw [hps] at hp; exact List.mem_append.1 hp
  · obtain ⟨_, _, _, _, _, hz, hn⟩ := hW
    refine ⟨hok, _, _, ([] ++ pa) ++ pv, ⟨[] ++ pa, pv, trodAll_append (hargs _ fun _ _ => rfl) (hres _ _ _), hvars _ fun _ _ => rfl, rfl, fun b off hp => ?_, fun ha => ?_⟩, fun p hp _ => ?_⟩
    · have hin : MemPlace.cell b off ∈ before := by rw [hps]; simpa using hp
      rw [hb.frozen (hlt _ hin)]
      exact hz b off hin
    · have := hn ha
      rw [hps] at this
      simpa using this
    · rw [hps]; simpa using hp
end
end Go.Proofs.Tz
