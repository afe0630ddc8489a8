/- E3 E4 F1 in one text. -/
import Derived.Test.YtcehboopgjpfcaaGreatDoorD8
/- Contract of ParseMavenVersion. -/
namespace Go.Proofs.Tz
open Go.RowKit Mv

/-- A text whose numbers are below V. -/
def Nums (V : Nat) (l : Bs) : Prop := ∀ t ∈ tokR [] (splitI l), allDig t.v = true → dval t.v < V

set_option maxHeartbeats 2000000 in
theorem parse_any (K : Nat) (HI : ItoaSaid K) (l : Bs) (hl : l.length ≤ 100000) (ha : Asc l) (hsm : Nums (WB ^ K) l) (w : World) (hE : EnvL w) :
    Calls Tryz.prog 39 #[.string (str l)] w fun e w' => ∃ v, e = .returned (.agg #[v]) ∧ Toks 84 w' w.heap.size v (mvTokens l) ∧ Below w.heap.size w w' := by
  have hn := newMaven_any K HI l hl ha hsm
  have HN := Lib.hid hn
  have HE := Lib.hid hE
  clear hn HI ha hsm hE
  go_enter Tryz.func39, Tryz.ntmps39
  go_wp2_with fail
  have hEa : EnvL (w.alloc (Obj.cells #[Value.slice none 0 0] 66)) := HE.out.below ((Below.refl w.heap.size w).alloc (Nat.le_refl _) _)
  (with_reducible refine (HN.out _ hEa).mono ?_)
  rintro e w1 ⟨v, rfl, hT, hB⟩
  rw [size_alloc] at hT hB
  have hres : Arr w1 w.heap.size 66 [Value.slice none 0 0] := (hB.block w.heap.size (by omega)).trans (Arr.new w 66 [Value.slice none 0 0])
  obtain ⟨ax, nx, cx, hvx⟩ : ∃ a n c, v = .slice a n c := by
    rcases hT.2 with ⟨h, _⟩ | ⟨g, cap, cur, h, _⟩
    · exact ⟨none, 0, 0, h⟩
    · exact ⟨_, _, _, h⟩
  subst hvx
  have hrf := hres.free 0
  have hrc : w1.cell? ⟨w.heap.size, 0, none⟩ = some (.slice none 0 0) := hres.cell rfl
  have HT := Lib.hid hT
  have HB := Lib.hid (((Below.refl w.heap.size w).alloc (Nat.le_refl _) (Obj.cells #[Value.slice none 0 0] 66)).trans (hB.mono (by omega)))
  have HRS := Lib.hid hres
  clear hT hB hres hEa
  go_wp2_with fail
  have q0 : (w1.setCell ⟨w.heap.size, 0, none⟩ (.slice ax nx cx)).cell? ⟨w.heap.size, 0, none⟩ = some (.slice ax nx cx) := (HRS.out.set 0 (.slice ax nx cx)).cell rfl
  refine bodyPost_ret (v := .agg #[.slice ax nx cx]) (by simp [results, Tryz.results39, go_sem, q0]) rfl ⟨_, rfl, ?_, ?_⟩
  · have hk := HT.out.kept (grownBy_set w1 w.heap.size 0 (.slice ax nx cx)) (by
      cases hv : (Value.slice ax nx cx).ownBlock with
      | none => exact .inl rfl
      | some g => right; intro e; injection e with e; have := (HT.out.lt g hv).1; omega)
    exact ownsRow_mono hk (by omega)
  · exact HB.out.setCell (Nat.le_refl _) _
end Go.Proofs.Tz

/- Contract of ZZMavenTold. -/
namespace Go.Proofs.Tz
open Go.RowKit Mv

theorem info68 : ∃ i z, Tryz.prog.info? 68 = some i ∧ i.zero = some z ∧ i.size = 3 ∧ i.bytes = 40 ∧ z.cells.size = 3 := by
  have h : (Tryz.prog.info? 68).map (fun i => (i.zero.map (fun z => z.cells.size), i.size, i.bytes)) = some (some 3, 3, 40) := by kernel_rfl
  obtain ⟨i, hi, hzz⟩ := Option.map_eq_some_iff.1 h
  simp only [Prod.mk.injEq] at hzz
  obtain ⟨z, hz, hzc⟩ := Option.map_eq_some_iff.1 hzz.1
  exact ⟨i, z, hi, hz, hzz.2.1, hzz.2.2, hzc⟩

set_option maxHeartbeats 4000000 in
set_option maxRecDepth 100000 in
theorem told_any (v : Value) (ts : List Tok) (base : Nat) (w : World) (hT : Toks 84 w base v ts) (hl : ts.length ≤ 1000000) :
    Calls Tryz.prog 38 #[.agg #[v]] w fun e w' => ∃ v', e = .returned v' ∧ Toks 68 w' w.heap.size v' ts ∧ Below w.heap.size w w' := by
  obtain ⟨i68, z68, hi68, hz68, hs68, hb68, hc68⟩ := info68
  obtain ⟨ax, cx, hvx⟩ : ∃ a c, v = .slice a ts.length c := by
    rcases hT.2 with ⟨h, h0⟩ | ⟨g, cap, cur, h, _⟩
    · exact ⟨none, 0, by rw [h, h0]⟩
    · exact ⟨_, _, h⟩
  subst hvx
  have HT := Lib.hid hT
  clear hT
  go_enter Tryz.func38, Tryz.ntmps38
  go_wp2_with fail
  obtain ⟨wo, rfl⟩ : ∃ wo : World, wo = w := ⟨_, rfl⟩
  go_loopw [3, 9] (fun o x wr => ∃ (vo : Value) (k : Nat), vo = o ∧ x = .int .i64 (k : Int) ∧ k ≤ ts.length ∧ Hid (wr.ownsRow wo.heap.size 68 3 vo k (tcs (ts.take k))) ∧ Hid (Below wo.heap.size wo wr)) (fun _ x _ => ts.length - (intOf x).toNat)
  case atStart => exact ⟨_, 0, rfl, rfl, Nat.zero_le _, Lib.hid (World.ownsRow_nil _ _ _ _), Lib.hid ((Below.refl _ _).alloc (Nat.le_refl _) _)⟩
  case round =>
    obtain ⟨vo, k, rfl, rfl, hk, H1, H2⟩ := hrel
    by_cases hkl : k < ts.length
    · obtain ⟨t, ht⟩ : ∃ t, ts[k]? = some t := ⟨_, List.getElem?_eq_getElem hkl⟩
      have hsp : ts = ts.take k ++ t :: ts.drop (k + 1) := by
        have h1 : ts.drop k = t :: ts.drop (k + 1) := by
          rw [List.drop_eq_getElem_cons hkl]
          rw [List.getElem?_eq_getElem hkl] at ht
          injection ht with ht; rw [ht]
        rw [← h1, List.take_append_drop]
      have hr := HT.out.below H2.out
      rw [hsp] at hr
      obtain ⟨g, cap, hv, _, _, c0, c1, c2⟩ := hr.read
      have htk : (ts.take k).length = k := by rw [List.length_take]; omega
      rw [htk] at c0 c1 c2
      injection hv with e1 e2 e3
      subst e1
      have HTK := Lib.hid ht
      have hszo : wo.heap.size ≤ wr.heap.size := H2.out.size
      clear hsp hr e2 e3 htk ht
      go_wp2_with (first | (at_builtin; refine wpList_append_lies _ rfl (.tmp 13) (.tmp 21) 62 rfl wo.heap.size 68 i68 z68 3 40 Tryz.underlying62 hi68 hz68 hs68 hb68 hc68 (by decide) vo k (tcs (ts.take k)) rfl ((H1.out.alloc _).alloc _) ⟨wr.heap.size + 1, 0, none⟩ 1 1 [sv t.p, sv t.v, .bool t.n] rfl rfl (by have := World.news_of_block (cs := #[sv t.p, sv t.v, .bool t.n]) (t := 68) (fr := (0, 0)) (heap_alloc_new (wr.alloc (Obj.cells #[sv t.p, sv t.v, .bool t.n] 84)) _); rw [size_alloc] at this; exact this) (by intro u hu; simp at hu; rcases hu with rfl | rfl | rfl <;> rfl) (by decide) (by unfold maxLen; omega) (by omega) (by simp; omega) _ rfl ?_; intro gg cc w3 hown3 hgrow3 hat3 hlt3))
      have hB3 : Below wo.heap.size wo w3 := ((H2.out.alloc hszo _).alloc (by rw [size_alloc]; omega) _).grown hgrow3 (by rw [size_alloc, size_alloc]; omega) (fun j hj => (H1.out.lt j hj).1)
      have hO3 : w3.ownsRow wo.heap.size 68 3 (.slice (some ⟨gg, 0, none⟩) (k + 1) cc) (k + 1) (tcs (ts.take (k + 1))) := by
        have : tcs (ts.take (k + 1)) = tcs (ts.take k) ++ [sv t.p, sv t.v, .bool t.n] := by rw [take_snoc HTK.out, tcs_append]; rfl
        rw [this]; exact hown3
      have HB3 := Lib.hid hB3
      have HO3 := Lib.hid hO3
      clear hB3 hO3 hown3 hgrow3 hat3 hlt3
      go_wp2_with fail
      go_roundw
      case rel => exact ⟨_, k + 1, rfl, by go_num, by omega, HO3, HB3⟩
      case measure => simp [intOf]; omega
    · have hke : k = ts.length := by omega
      have HK := Lib.hid hke
      clear hke
      go_wp2_with fail
      go_ret
      refine ⟨_, rfl, ?_, H2.out⟩
      have h1 := H1.out
      rw [HK.out, List.take_of_length_le (Nat.le_refl _)] at h1
      exact h1
end Go.Proofs.Tz

/- Contracts of a token's equality, of a keyword's place, of the null token. -/
namespace Go.Proofs.Tz
open Go.RowKit Mv

def TokAt (w : World) (g o : Nat) (t : Tok) : Prop := w.cell? ⟨g, o, none⟩ = some (sv t.p) ∧ w.cell? ⟨g, o + 1, none⟩ = some (sv t.v) ∧ w.cell? ⟨g, o + 2, none⟩ = some (.bool t.n)
def tagg (t : Tok) : Value := .agg #[sv t.p, sv t.v, .bool t.n]
theorem TokAt.below {w w' : World} {g o : Nat} {t : Tok} (h : TokAt w g o t) (hb : Below w.heap.size w w') : TokAt w' g o t := ⟨cell_keep hb h.1, cell_keep hb h.2.1, cell_keep hb h.2.2⟩

set_option maxHeartbeats 2000000 in
theorem equal88 (g o : Nat) (a b : Tok) (w : World) (h : TokAt w g o a) :
    Calls Tryz.prog 88 #[.pointer (some ⟨g, o, none⟩), tagg b] w fun e w' => e = .returned (.bool (teq a b)) ∧ Below w.heap.size w w' := by
  obtain ⟨c0, c1, c2⟩ := h
  obtain ⟨ap, av, an⟩ := a
  obtain ⟨bp, bv, bn⟩ := b
  unfold sv at c0 c1
  unfold tagg sv
  have htl := str_toList
  have hg0 := World.block_lt_of_cell? w _ c0
  have hB := Lib.hid ((Below.refl w.heap.size w).alloc (Nat.le_refl _) (Obj.cells #[Value.string (str bp), Value.string (str bv), Value.bool bn] 84))
  by_cases hp : ap = bp
  · have m1 : (ap == bp) = true := by simp [hp]
    by_cases hv : av = bv
    · have m2 : (av == bv) = true := by simp [hv]
      have ht : teq ⟨ap, av, an⟩ ⟨bp, bv, bn⟩ = true := by simp [teq, hp, hv]
      rw [ht]
      clear ht hp hv
      go_enter Tryz.func88, Tryz.ntmps88
      go_wp2_with fail
      go_quiet (fail)
      go_wp2_with fail
      go_ret
      exact ⟨rfl, below_drewN' hB.out _⟩
    · have m2 : (av == bv) = false := by simp [hv]
      have ht : teq ⟨ap, av, an⟩ ⟨bp, bv, bn⟩ = false := by simp [teq, hv]
      rw [ht]
      clear ht hp hv
      go_enter Tryz.func88, Tryz.ntmps88
      go_wp2_with fail
      go_quiet (fail)
      go_wp2_with fail
      go_ret
      exact ⟨rfl, below_drewN' hB.out _⟩
  · have m1 : (ap == bp) = false := by simp [hp]
    have ht : teq ⟨ap, av, an⟩ ⟨bp, bv, bn⟩ = false := by simp [teq, hp]
    rw [ht]
    clear ht hp
    go_enter Tryz.func88, Tryz.ntmps88
    go_wp2_with fail
    go_quiet (fail)
    go_wp2_with fail
    go_ret
    exact ⟨rfl, below_drewN' hB.out _⟩

/-! ### A keyword's place -/
def kwl : List Bs := [sAlpha, sBeta, sMile, sRc, sSnap, [], sSp]
theorem kw_at {i : Nat} {q : Bs} (h : kwl[i]? = some q) : kw q = i := by
  have hi : i < 7 := (List.getElem?_eq_some_iff.1 h).1
  match i, hi with
  | 0, _ => injection h with h; subst h; decide
  | 1, _ => injection h with h; subst h; decide
  | 2, _ => injection h with h; subst h; decide
  | 3, _ => injection h with h; subst h; decide
  | 4, _ => injection h with h; subst h; decide
  | 5, _ => injection h with h; subst h; decide
  | 6, _ => injection h with h; subst h; decide
theorem kw_none {q : Bs} (h : ∀ x ∈ kwl, x ≠ q) : kw q = 7 := by
  have g : ∀ x ∈ kwl, q ≠ x := fun x hx => Ne.symm (h x hx)
  unfold kw
  rw [if_neg (g sAlpha (by simp [kwl])), if_neg (g sBeta (by simp [kwl])), if_neg (g sMile (by simp [kwl])), if_neg (g sRc (by simp [kwl])), if_neg (g sSnap (by simp [kwl])), if_neg (g [] (by simp [kwl])), if_neg (g sSp (by simp [kwl]))]
/-- The keywords lie where the variable says. -/
def KwAt (w : World) : Prop := ∃ K o c, w.cell? ⟨1, 0, none⟩ = some (.slice (some ⟨K, o, none⟩) 7 c) ∧ ∀ i x, kwl[i]? = some x → w.cell? ⟨K, o + i, none⟩ = some (.string (str x))
theorem KwAt.below {w w' : World} (h : KwAt w) (hb : Below w.heap.size w w') : KwAt w' := by
  obtain ⟨K, o, c, h1, h2⟩ := h
  exact ⟨K, o, c, cell_keep hb h1, fun i x hx => cell_keep hb (h2 i x hx)⟩
theorem take_ne {α : Type} {l : List α} {q c : α} {i : Nat} (h : ∀ x ∈ l.take i, x ≠ q) (hc : l[i]? = some c) (hp : c ≠ q) : ∀ x ∈ l.take (i + 1), x ≠ q := by
  intro x hx
  rw [take_snoc hc] at hx
  rcases List.mem_append.1 hx with hx | hx
  · exact h x hx
  · simp at hx; subst hx; exact hp

set_option maxHeartbeats 2000000 in
theorem keyword104 (q : Bs) (w : World) (h : KwAt w) : Calls Tryz.prog 104 #[.string (str q)] w fun e w' => e = .returned (.int .i64 (kw q : Nat)) ∧ w = w' := by
  obtain ⟨K, o, c, h1, h2⟩ := h
  have H2 := Lib.hid h2
  have htl := str_toList
  clear h2
  go_enter Tryz.func104, Tryz.ntmps104
  go_wp2_with fail
  go_loop [3, 4, 7] (fun x3 x4 x => ∃ (v3 v4 : Value) (i : Nat), v3 = x3 ∧ v4 = x4 ∧ x = .int .i64 (i : Int) ∧ i ≤ 7 ∧ Hid (∀ x ∈ kwl.take i, x ≠ q)) (fun _ _ x => 7 - (intOf x).toNat)
  case atStart => exact ⟨_, _, 0, rfl, rfl, rfl, Nat.zero_le _, Lib.hid (by simp)⟩
  case round =>
    obtain ⟨v3, v4, i, rfl, rfl, rfl, hi, H⟩ := hrel
    by_cases hil : i < 7
    · obtain ⟨x, hx⟩ : ∃ x, kwl[i]? = some x := ⟨_, List.getElem?_eq_getElem hil⟩
      have hc := H2.out i x hx
      have HX := Lib.hid hx
      clear hx
      by_cases he : x = q
      · subst he
        have m1 : (x == x) = true := by simp
        go_wp2_with fail
        go_ret
        exact ⟨by rw [kw_at HX.out]; rfl, rfl⟩
      · have m1 : (x == q) = false := by simp [he]
        have HN := Lib.hid (take_ne H.out HX.out he)
        clear he
        go_wp2_with fail
        go_round
        case rel => exact ⟨_, _, i + 1, rfl, rfl, by go_num, by omega, HN⟩
        case measure => simp [intOf]; omega
    · have hie : i = 7 := by omega
      subst hie
      go_wp2_with fail
      go_ret
      exact ⟨by rw [kw_none (q := q) (fun x hx => H.out x (by rw [List.take_of_length_le (by decide)]; exact hx))]; rfl, rfl⟩

/-! ### The null token -/
set_option maxHeartbeats 2000000 in
theorem null89 (t x : Tok) (w : World) (h : tnull t = some x) : Calls Tryz.prog 89 #[tagg t] w fun e w' => e = .returned (.tuple #[tagg x, .nilIface]) ∧ Below w.heap.size w w' := by
  obtain ⟨p, v, n⟩ := t
  unfold tagg sv
  have htl := str_toList
  have t1 : ByteArray.toList { data := #[46] } = [46] := str_toList [46]
  have t2 : ByteArray.toList { data := #[45] } = [45] := str_toList [45]
  have t3 : ByteArray.toList { data := #[115, 112] } = sSp := str_toList sSp
  unfold tnull at h
  by_cases hp : p = [46]
  · rw [if_pos hp] at h
    have m1 : (p == [46]) = true := by simp [hp]
    by_cases hv : v = sSp
    · rw [if_pos hv] at h
      injection h with h
      subst h
      have m2 : (v == sSp) = true := by simp [hv]
      clear hp hv
      go_enter Tryz.func89, Tryz.ntmps89
      go_wp2_with fail
      refine bodyPost_ret (v := .tuple #[.agg #[.string ⟨#[46]⟩, .string ⟨#[]⟩, .bool true], .nilIface]) (by simp [results, Tryz.results89, go_sem]) rfl ⟨rfl, ?_⟩
      exact ((Below.refl w.heap.size w).alloc (Nat.le_refl _) _).alloc (by rw [size_alloc]; omega) _
    · rw [if_neg hv] at h
      injection h with h
      subst h
      have m2 : (v == sSp) = false := by simp [hv]
      clear hp hv
      go_enter Tryz.func89, Tryz.ntmps89
      go_wp2_with fail
      refine bodyPost_ret (v := .tuple #[.agg #[.string ⟨#[46]⟩, .string ⟨#[48]⟩, .bool true], .nilIface]) (by simp [results, Tryz.results89, go_sem]) rfl ⟨rfl, ?_⟩
      exact ((Below.refl w.heap.size w).alloc (Nat.le_refl _) _).alloc (by rw [size_alloc]; omega) _
  · rw [if_neg hp] at h
    have m1 : (p == [46]) = false := by simp [hp]
    by_cases hp2 : p = [45]
    · rw [if_pos hp2] at h
      injection h with h
      subst h
      have m2 : (p == [45]) = true := by simp [hp2]
      clear hp hp2
      go_enter Tryz.func89, Tryz.ntmps89
      go_wp2_with fail
      refine bodyPost_ret (v := .tuple #[.agg #[.string ⟨#[45]⟩, .string ⟨#[]⟩, .bool true], .nilIface]) (by simp [results, Tryz.results89, go_sem]) rfl ⟨rfl, ?_⟩
      exact ((Below.refl w.heap.size w).alloc (Nat.le_refl _) _).alloc (by rw [size_alloc]; omega) _
    · rw [if_neg hp2] at h; cases h
end Go.Proofs.Tz
