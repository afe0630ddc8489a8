/- Contract of two versions' lessThan. -/
import Derived.Test.YtcehboopgjpfcaaGreatDoorF5
import Derived.Deep.DeepCutAuto
import Derived.Deep.CutBlock
namespace Go.Proofs.Mv
theorem vless_step {a b : List Tok} {r : Bool} {i : Nat} (h : vless (a.drop i) (b.drop i) = some r) (hi : i < a.length ∨ i < b.length) :
    ∃ x y, (i < a.length → a[i]? = some x) ∧ (a.length ≤ i → ∃ u, b[i]? = some u ∧ tnull u = some x) ∧ (i < b.length → b[i]? = some y) ∧ (b.length ≤ i → ∃ t, a[i]? = some t ∧ tnull t = some y) ∧
      (teq x y = true → vless (a.drop (i + 1)) (b.drop (i + 1)) = some r) ∧ (teq x y = false → tless x y = some r) := by
  by_cases ha : i < a.length
  · have da : a.drop i = a[i] :: a.drop (i + 1) := List.drop_eq_getElem_cons ha
    by_cases hb : i < b.length
    · have db : b.drop i = b[i] :: b.drop (i + 1) := List.drop_eq_getElem_cons hb
      rw [da, db, vless] at h
      refine ⟨a[i], b[i], fun _ => List.getElem?_eq_getElem ha, fun _ => by omega, fun _ => List.getElem?_eq_getElem hb, fun _ => by omega, fun ht => ?_, fun ht => ?_⟩
      · rwa [if_pos ht] at h
      · rwa [if_neg (by rw [ht]; decide)] at h
    · have db : b.drop i = [] := List.drop_of_length_le (by omega)
      have db2 : b.drop (i + 1) = [] := List.drop_of_length_le (by omega)
      rw [da, db, vless] at h
      cases hy : tnull a[i] with
      | none => rw [hy] at h; cases h
      | some y =>
        rw [hy] at h
        refine ⟨a[i], y, fun _ => List.getElem?_eq_getElem ha, fun _ => by omega, fun _ => by omega, fun _ => ⟨a[i], List.getElem?_eq_getElem ha, hy⟩, fun ht => ?_, fun ht => ?_⟩
        · rw [db2]; simpa [ht] using h
        · simpa [ht] using h
  · have hb : i < b.length := by omega
    have da : a.drop i = [] := List.drop_of_length_le (by omega)
    have da2 : a.drop (i + 1) = [] := List.drop_of_length_le (by omega)
    have db : b.drop i = b[i] :: b.drop (i + 1) := List.drop_eq_getElem_cons hb
    rw [da, db, vless] at h
    cases hx : tnull b[i] with
    | none => rw [hx] at h; cases h
    | some x =>
      rw [hx] at h
      refine ⟨x, b[i], fun _ => by omega, fun _ => ⟨b[i], List.getElem?_eq_getElem hb, hx⟩, fun _ => List.getElem?_eq_getElem hb, fun _ => by omega, fun ht => ?_, fun ht => ?_⟩
      · rw [da2]; simpa [ht] using h
      · simpa [ht] using h
end Go.Proofs.Mv
namespace Go.Proofs.Tz
open Go.RowKit Mv
theorem vok_null {t x : Tok} (h : tnull t = some x) : Vok x.v := by
  obtain ⟨_, _, hv⟩ := mid_null h
  rcases hv with hv | hv
  · rw [hv]; exact ⟨.inl (by decide), by decide⟩
  · rw [hv]; exact ⟨.inr (fun c hc => by simp at hc), by decide⟩

/-- What lessThan's loop keeps: the two boxes, the two tokens' places. -/
structure LessAt (w : World) (S : Nat) (va vb : Value) (wr : World) : Prop where
  box1 : wr.cell? ⟨S, 0, none⟩ = some va
  box2 : wr.cell? ⟨S + 1, 0, none⟩ = some vb
  left : ∃ t : Tok, Arr wr (S + 1 + 1) 84 [sv t.p, sv t.v, .bool t.n]
  right : ∃ t : Tok, Arr wr (S + 1 + 1 + 1) 84 [sv t.p, sv t.v, .bool t.n]
  below : Below w.heap.size w wr
def putTok (wr : World) (g : Nat) (x : Tok) : World := ((wr.setCell ⟨g, 0, none⟩ (.string (str x.p))).setCell ⟨g, 1, none⟩ (.string (str x.v))).setCell ⟨g, 2, none⟩ (.bool x.n)
theorem putTok_at {wr : World} {g : Nat} {t : Tok} (h : Arr wr g 84 [sv t.p, sv t.v, .bool t.n]) (x : Tok) : Arr (putTok wr g x) g 84 [sv x.p, sv x.v, .bool x.n] := ((h.set 0 (.string (str x.p))).set 1 (.string (str x.v))).set 2 (.bool x.n)
theorem putTok_other {wr : World} {g k : Nat} {T : TypeId} {cs : List Value} (h : Arr wr k T cs) (hk : k ≠ g) (x : Tok) : Arr (putTok wr g x) k T cs := ((h.setOther hk _).setOther hk _).setOther hk _
theorem putTok_cell {wr : World} {g k : Nat} {v : Value} (h : wr.cell? ⟨k, 0, none⟩ = some v) (hk : k ≠ g) (x : Tok) : (putTok wr g x).cell? ⟨k, 0, none⟩ = some v := by
  unfold putTok
  rw [World.cell?_of_block (a := ⟨k, 0, none⟩) (Below.heap_setCell _ _ _ k (by exact hk)), World.cell?_of_block (a := ⟨k, 0, none⟩) (Below.heap_setCell _ _ _ k (by exact hk)), World.cell?_of_block (a := ⟨k, 0, none⟩) (Below.heap_setCell _ _ _ k (by exact hk))]
  exact h
theorem lessAt_left {w wr : World} {va vb : Value} (h : LessAt w w.heap.size va vb wr) (x : Tok) : LessAt w w.heap.size va vb (putTok wr (w.heap.size + 1 + 1) x) ∧ TokAt (putTok wr (w.heap.size + 1 + 1) x) (w.heap.size + 1 + 1) 0 x := by
  obtain ⟨t0, hA⟩ := h.left
  obtain ⟨t1, hB⟩ := h.right
  have hA' := putTok_at hA x
  exact ⟨⟨putTok_cell h.box1 (by omega) x, putTok_cell h.box2 (by omega) x, ⟨x, hA'⟩, ⟨t1, putTok_other hB (by omega) x⟩, ((h.below.setCell (by show w.heap.size ≤ w.heap.size + 1 + 1; omega) _).setCell (by show w.heap.size ≤ w.heap.size + 1 + 1; omega) _).setCell (by show w.heap.size ≤ w.heap.size + 1 + 1; omega) _⟩,
    hA'.cell (j := 0) rfl, hA'.cell (j := 1) rfl, hA'.cell (j := 2) rfl⟩
theorem tokAt_other {wr : World} {g k : Nat} {t : Tok} (h : TokAt wr k 0 t) (hk : k ≠ g) (x : Tok) : TokAt (putTok wr g x) k 0 t := by
  have e : (putTok wr g x).heap[k]? = wr.heap[k]? := by
    unfold putTok
    rw [Below.heap_setCell _ _ _ k (by exact hk), Below.heap_setCell _ _ _ k (by exact hk), Below.heap_setCell _ _ _ k (by exact hk)]
  exact ⟨(World.cell?_of_block (a := ⟨k, 0, none⟩) e).trans h.1, (World.cell?_of_block (a := ⟨k, 0 + 1, none⟩) e).trans h.2.1, (World.cell?_of_block (a := ⟨k, 0 + 2, none⟩) e).trans h.2.2⟩
theorem lessAt_right {w wr : World} {va vb : Value} (h : LessAt w w.heap.size va vb wr) (x : Tok) : LessAt w w.heap.size va vb (putTok wr (w.heap.size + 1 + 1 + 1) x) ∧ TokAt (putTok wr (w.heap.size + 1 + 1 + 1) x) (w.heap.size + 1 + 1 + 1) 0 x := by
  obtain ⟨t0, hA⟩ := h.left
  obtain ⟨t1, hB⟩ := h.right
  have hB' := putTok_at hB x
  exact ⟨⟨putTok_cell h.box1 (by omega) x, putTok_cell h.box2 (by omega) x, ⟨t0, putTok_other hA (by omega) x⟩, ⟨x, hB'⟩, ((h.below.setCell (by show w.heap.size ≤ w.heap.size + 1 + 1 + 1; omega) _).setCell (by show w.heap.size ≤ w.heap.size + 1 + 1 + 1; omega) _).setCell (by show w.heap.size ≤ w.heap.size + 1 + 1 + 1; omega) _⟩,
    hB'.cell (j := 0) rfl, hB'.cell (j := 1) rfl, hB'.cell (j := 2) rfl⟩

set_option maxHeartbeats 8000000 in
set_option maxRecDepth 100000 in
theorem vless74 (va vb : Value) (a b : List Tok) (ba bb : Nat) (r : Bool) (w : World) (hE : Env w) (hK : KwAt w) (hA : Toks 84 w ba va a) (hB : Toks 84 w bb vb b) (la : a.length ≤ 1000000) (lb : b.length ≤ 1000000)
    (ga : ∀ t ∈ a, Vok t.v) (gb : ∀ t ∈ b, Vok t.v) (hr : vless a b = some r) :
    Calls Tryz.prog 74 #[.agg #[va], .agg #[vb]] w fun e w' => e = .returned (.tuple #[.bool r, .nilIface]) ∧ Below w.heap.size w w' := by
  obtain ⟨aa, ca, rfl⟩ := toks_form hA
  obtain ⟨ab, cb, rfl⟩ := toks_form hB
  have HE := Lib.hid hE
  have HK := Lib.hid hK
  have HA := Lib.hid hA
  have HB := Lib.hid hB
  have GA := Lib.hid ga
  have GB := Lib.hid gb
  have HR := Lib.hid hr
  clear hE hK hA hB ga gb hr
  go_enter Tryz.func74, Tryz.ntmps74
  go_wp2_with fail
  obtain ⟨n, hn⟩ : ∃ n, n = max a.length b.length := ⟨_, rfl⟩
  have hmx : max (a.length : Int) (b.length : Int) = (n : Int) := by rw [hn]; omega
  have hn1 : a.length ≤ n := by omega
  have hn2 : b.length ≤ n := by omega
  have hn3 : n ≤ 1000000 := by omega
  have HN := Lib.hid hn
  rw [hmx]
  clear hmx hn
  generalize hW0 : World.alloc _ _ = w0
  have hL0 : LessAt w w.heap.size (.slice aa a.length ca) (.slice ab b.length cb) w0 := by
    rw [← hW0]
    have q1 := Arr.new w 66 [Value.slice aa a.length ca]
    have q2 := Arr.new (w.alloc (Obj.cells #[Value.slice aa a.length ca] 66)) 66 [Value.slice ab b.length cb]
    have q3 := Arr.new ((w.alloc (Obj.cells #[Value.slice aa a.length ca] 66)).alloc (Obj.cells #[Value.slice ab b.length cb] 66)) 84 [sv [], sv [], .bool false]
    have q4 := Arr.new (((w.alloc (Obj.cells #[Value.slice aa a.length ca] 66)).alloc (Obj.cells #[Value.slice ab b.length cb] 66)).alloc (Obj.cells #[sv [], sv [], .bool false] 84)) 84 [sv [], sv [], .bool false]
    simp only [size_alloc] at q2 q3 q4
    exact ⟨(((q1.alloc _).alloc _).alloc _).cell (j := 0) rfl, ((q2.alloc _).alloc _).cell (j := 0) rfl, ⟨⟨[], [], false⟩, q3.alloc _⟩, ⟨⟨[], [], false⟩, q4⟩,
      ((((Below.refl _ _).alloc (Nat.le_refl _) _).alloc (by rw [size_alloc]; omega) _).alloc (by simp only [size_alloc]; omega) _).alloc (by simp only [size_alloc]; omega) _⟩
  have HL0 := Lib.hid hL0
  clear hW0 hL0
  go_loopw [9, 10, 19] (fun z1 z2 x wr => ∃ (y1 y2 : Value) (i : Nat), y1 = z1 ∧ y2 = z2 ∧ x = .int .i64 (i : Int) ∧ i ≤ n ∧ Hid (vless (a.drop i) (b.drop i) = some r) ∧ Hid (LessAt w w.heap.size (.slice aa a.length ca) (.slice ab b.length cb) wr)) (fun _ _ x _ => n - (intOf x).toNat)
  case atStart => exact ⟨_, _, 0, rfl, rfl, rfl, Nat.zero_le _, Lib.hid HR.out, HL0⟩
  case round =>
    obtain ⟨y1, y2, i, rfl, rfl, rfl, hi, J, K⟩ := hrel
    by_cases hin : i < n
    · obtain ⟨x, y, s1, s2, s3, s4, s5, s6⟩ := vless_step J.out (by have := HN.out; omega)
      have S1 := Lib.hid s1
      have S2 := Lib.hid s2
      have S3 := Lib.hid s3
      have S4 := Lib.hid s4
      have S5 := Lib.hid s5
      have S6 := Lib.hid s6
      have hb1 := K.out.box1
      have hb2 := K.out.box2
      clear s1 s2 s3 s4 s5 s6
      go_upto_if 26 with fail
      go_cut [9] from 26 to 43 (fun z wx => (∃ zv : Value, zv = z) ∧ Hid (LessAt w w.heap.size (.slice aa a.length ca) (.slice ab b.length cb) wx) ∧ Hid (TokAt wx (w.heap.size + 1 + 1) 0 x))
      case first =>
        by_cases hil : i < a.length
        · obtain ⟨g1, c1', e1, hT1⟩ := tokAt_of (HA.out.below K.out.below) (S1.out hil)
          injection e1 with e11 e12 e13
          subst e11
          obtain ⟨p0, p1, p2⟩ := hT1
          unfold sv at p0 p1
          obtain ⟨t0, hA0⟩ := K.out.left
          have f0 := hA0.free 0
          have f1 := hA0.free 1
          have f2 := hA0.free 2
          have d0 := hA0.cell (j := 0) rfl
          have d1 := hA0.cell (j := 1) rfl
          have d2 := hA0.cell (j := 2) rfl
          have HA0 := Lib.hid hA0
          clear hA0 e12 e13
          go_wp2_with fail
          go_meet
          exact ⟨⟨_, rfl⟩, Lib.hid (lessAt_left K.out x).1, Lib.hid (lessAt_left K.out x).2⟩
        · obtain ⟨u, hu, hnull⟩ := S2.out (by omega)
          obtain ⟨g1, c1', e1, hT1⟩ := tokAt_of (HB.out.below K.out.below) hu
          injection e1 with e11 e12 e13
          subst e11
          obtain ⟨p0, p1, p2⟩ := hT1
          unfold sv at p0 p1
          have hub := (List.getElem?_eq_some_iff.1 hu).1
          have h89 : Calls Tryz.prog 89 #[.agg #[.string (str u.p), .string (str u.v), .bool u.n]] wr fun e w' => e = .returned (.tuple #[.agg #[.string (str x.p), .string (str x.v), .bool x.n], .nilIface]) ∧ Below wr.heap.size wr w' := null89 u x wr hnull
          have H89 := Lib.hid h89
          clear h89 hu hnull e12 e13
          go_wp2_with fail
          (with_reducible refine (H89.out).mono ?_)
          rintro e w2 ⟨rfl, hB2⟩
          have K2 : LessAt w w.heap.size (.slice aa a.length ca) (.slice (some ⟨g1, 0, none⟩) b.length cb) w2 := by
            obtain ⟨l1, l2⟩ := K.out.left
            obtain ⟨r1, r2⟩ := K.out.right
            exact ⟨cell_keep hB2 K.out.box1, cell_keep hB2 K.out.box2, ⟨l1, l2.below hB2⟩, ⟨r1, r2.below hB2⟩, K.out.below.trans (hB2.mono K.out.below.size)⟩
          obtain ⟨t0, hA0⟩ := K2.left
          have f0 := hA0.free 0
          have f1 := hA0.free 1
          have f2 := hA0.free 2
          have d0 := hA0.cell (j := 0) rfl
          have d1 := hA0.cell (j := 1) rfl
          have d2 := hA0.cell (j := 2) rfl
          have HK2 := Lib.hid K2
          clear hA0 K2 hB2
          go_wp2_with fail
          go_meet
          exact ⟨⟨_, rfl⟩, Lib.hid (lessAt_left HK2.out x).1, Lib.hid (lessAt_left HK2.out x).2⟩
      case rest =>
        obtain ⟨⟨zv, rfl⟩, M, MX⟩ := hcut
        have hb1 := M.out.box1
        have hb2 := M.out.box2
        go_upto_if 48 with fail
        go_cut [9] from 48 to 65 (fun z wx => (∃ zv : Value, zv = z) ∧ Hid (LessAt w w.heap.size (.slice aa a.length ca) (.slice ab b.length cb) wx) ∧ Hid (TokAt wx (w.heap.size + 1 + 1) 0 x) ∧ Hid (TokAt wx (w.heap.size + 1 + 1 + 1) 0 y))
        case first =>
          by_cases hil : i < b.length
          · obtain ⟨g1, c1', e1, hT1⟩ := tokAt_of (HB.out.below M.out.below) (S3.out hil)
            injection e1 with e11 e12 e13
            subst e11
            obtain ⟨p0, p1, p2⟩ := hT1
            unfold sv at p0 p1
            obtain ⟨t0, hA0⟩ := M.out.right
            have f0 := hA0.free 0
            have f1 := hA0.free 1
            have f2 := hA0.free 2
            have d0 := hA0.cell (j := 0) rfl
            have d1 := hA0.cell (j := 1) rfl
            have d2 := hA0.cell (j := 2) rfl
            clear hA0 e12 e13
            go_wp2_with fail
            go_meet
            exact ⟨⟨_, rfl⟩, Lib.hid (lessAt_right M.out y).1, Lib.hid (tokAt_other MX.out (by omega) y), Lib.hid (lessAt_right M.out y).2⟩
          · obtain ⟨u, hu, hnull⟩ := S4.out (by omega)
            obtain ⟨g1, c1', e1, hT1⟩ := tokAt_of (HA.out.below M.out.below) hu
            injection e1 with e11 e12 e13
            subst e11
            obtain ⟨p0, p1, p2⟩ := hT1
            unfold sv at p0 p1
            have hub := (List.getElem?_eq_some_iff.1 hu).1
            have h89 : Calls Tryz.prog 89 #[.agg #[.string (str u.p), .string (str u.v), .bool u.n]] wc fun e w' => e = .returned (.tuple #[.agg #[.string (str y.p), .string (str y.v), .bool y.n], .nilIface]) ∧ Below wc.heap.size wc w' := null89 u y wc hnull
            have H89 := Lib.hid h89
            clear h89 hu hnull e12 e13
            go_wp2_with fail
            (with_reducible refine (H89.out).mono ?_)
            rintro e w2 ⟨rfl, hB2⟩
            have K2 : LessAt w w.heap.size (.slice (some ⟨g1, 0, none⟩) a.length ca) (.slice ab b.length cb) w2 := by
              obtain ⟨l1, l2⟩ := M.out.left
              obtain ⟨r1, r2⟩ := M.out.right
              exact ⟨cell_keep hB2 M.out.box1, cell_keep hB2 M.out.box2, ⟨l1, l2.below hB2⟩, ⟨r1, r2.below hB2⟩, M.out.below.trans (hB2.mono M.out.below.size)⟩
            have KX : TokAt w2 (w.heap.size + 1 + 1) 0 x := MX.out.below hB2
            obtain ⟨t0, hA0⟩ := K2.right
            have f0 := hA0.free 0
            have f1 := hA0.free 1
            have f2 := hA0.free 2
            have d0 := hA0.cell (j := 0) rfl
            have d1 := hA0.cell (j := 1) rfl
            have d2 := hA0.cell (j := 2) rfl
            have HK2 := Lib.hid K2
            have HKX := Lib.hid KX
            clear hA0 K2 KX hB2
            go_wp2_with fail
            go_meet
            exact ⟨⟨_, rfl⟩, Lib.hid (lessAt_right HK2.out y).1, Lib.hid (tokAt_other HKX.out (by omega) y), Lib.hid (lessAt_right HK2.out y).2⟩
        case rest =>
          obtain ⟨⟨zv, rfl⟩, N, NX, NY⟩ := hcut
          obtain ⟨n0, n1, n2⟩ := NY.out
          unfold sv at n0 n1
          have h88 : Calls Tryz.prog 88 #[.pointer (some ⟨w.heap.size + 1 + 1, 0, none⟩), .agg #[.string (str y.p), .string (str y.v), .bool y.n]] wc fun e w' => e = .returned (.bool (teq x y)) ∧ Below wc.heap.size wc w' := equal88 (w.heap.size + 1 + 1) 0 x y wc NX.out
          have H88 := Lib.hid h88
          clear h88
          go_wp2_with fail
          (with_reducible refine (H88.out).mono ?_)
          rintro e w3 ⟨rfl, hB3⟩
          have N3 : LessAt w w.heap.size (.slice aa a.length ca) (.slice ab b.length cb) w3 := by
            obtain ⟨l1, l2⟩ := N.out.left
            obtain ⟨r1, r2⟩ := N.out.right
            exact ⟨cell_keep hB3 N.out.box1, cell_keep hB3 N.out.box2, ⟨l1, l2.below hB3⟩, ⟨r1, r2.below hB3⟩, N.out.below.trans (hB3.mono N.out.below.size)⟩
          have HN3 := Lib.hid N3
          by_cases hte : teq x y = true
          · have HV := Lib.hid (S5.out hte)
            clear N3 hB3
            go_wp2_with fail
            go_roundw
            case rel => exact ⟨_, _, i + 1, rfl, rfl, by go_num, by omega, HV, HN3⟩
            case measure => simp [intOf]; omega
          · have hte : teq x y = false := by simpa using hte
            have hvx : Vok x.v := by
              by_cases hil : i < a.length
              · exact GA.out x (List.mem_of_getElem? (S1.out hil))
              · obtain ⟨u, _, hu⟩ := S2.out (by omega)
                exact vok_null hu
            have hvy : Vok y.v := by
              by_cases hil : i < b.length
              · exact GB.out y (List.mem_of_getElem? (S3.out hil))
              · obtain ⟨u, _, hu⟩ := S4.out (by omega)
                exact vok_null hu
            have h90 : Calls Tryz.prog 90 #[.pointer (some ⟨w.heap.size + 1 + 1, 0, none⟩), .agg #[.string (str y.p), .string (str y.v), .bool y.n]] w3 fun e w' => e = .returned (.tuple #[.bool r, .nilIface]) ∧ Below w3.heap.size w3 w' :=
              less90 (w.heap.size + 1 + 1) 0 x y r w3 (HE.out.below N3.below) (HK.out.below N3.below) (NX.out.below hB3) hvx hvy (S6.out hte)
            have n0 := cell_keep hB3 n0
            have n1 := cell_keep hB3 n1
            have n2 := cell_keep hB3 n2
            have H90 := Lib.hid h90
            clear h90 hvx hvy N3 hB3
            go_wp2_with fail
            (with_reducible refine (H90.out).mono ?_)
            rintro e w4 ⟨rfl, hB4⟩
            have HB4 := Lib.hid (HN3.out.below.trans (hB4.mono HN3.out.below.size))
            clear hB4
            go_wp2_with fail
            go_ret2
            exact ⟨rfl, HB4.out⟩
    · have h0 : r = false := by
        have h1 := J.out
        rw [List.drop_of_length_le (by omega), List.drop_of_length_le (by omega), vless] at h1
        injection h1 with h1; exact h1.symm
      subst h0
      go_wp2_with fail
      go_ret2
      exact ⟨rfl, K.out.below⟩
end Go.Proofs.Tz
