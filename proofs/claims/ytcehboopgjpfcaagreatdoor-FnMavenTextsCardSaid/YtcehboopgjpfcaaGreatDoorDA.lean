/- D1 D2 D3 D4 D5 D6 D7 E1 E2 in one text. -/
import Derived.Test.YtcehboopgjpfcaaGreatDoorCA
import Derived.Laws.RangeString
import Derived.Laws.RangeAny
import Derived.WalkSmall
import Derived.Deep.AppendLies
import Derived.Deep.RegionHeld3
import Derived.IntWalk
/- Contract of zzIndexAny. -/
namespace Go.Proofs.Mv

/-- The place of the first mark. -/
def fstMark : Bs → Option Nat
  | [] => none
  | c :: r => if isMark c = true then some 0 else (fstMark r).map (· + 1)

theorem fstMark_at : ∀ {l : Bs} {k : Nat}, k < l.length → (∀ (i : Nat) (c : UInt8), i < k → l[i]? = some c → isMark c = false) → (∀ c, l[k]? = some c → isMark c = true) → fstMark l = some k
  | c :: r, 0, _, _, h => by rw [fstMark, if_pos (h c rfl)]
  | c :: r, k + 1, hk, h, h2 => by
    rw [fstMark, if_neg (by rw [h 0 c (by omega) rfl]; simp), fstMark_at (l := r) (k := k) (by simpa using hk) (fun i d hi hd => h (i + 1) d (by omega) (by simpa using hd)) (fun d hd => h2 d (by simpa using hd))]
    rfl
theorem fstMark_no : ∀ {l : Bs}, (∀ (i : Nat) (c : UInt8), l[i]? = some c → isMark c = false) → fstMark l = none
  | [], _ => rfl
  | c :: r, h => by
    rw [fstMark, if_neg (by rw [h 0 c rfl]; simp), fstMark_no (fun i d hd => h (i + 1) d (by simpa using hd))]
    rfl
theorem splitI_fst : ∀ (l : Bs), splitI l = match fstMark l with | none => [l] | some k => l.take k :: (l.drop k).take 1 :: splitI (l.drop (k + 1))
  | [] => rfl
  | c :: r => by
    rw [splitI, fstMark]
    by_cases h : isMark c = true
    · rw [if_pos h, if_pos h]; rfl
    · rw [if_neg h, if_neg h, splitI_fst r]
      cases hf : fstMark r with
      | none => rfl
      | some k => rfl
theorem fstMark_lt : ∀ {l : Bs} {k : Nat}, fstMark l = some k → k < l.length
  | c :: r, k, h => by
    rw [fstMark] at h
    split at h
    · injection h with h; subst h; simp
    · cases hf : fstMark r with
      | none => rw [hf] at h; cases h
      | some j => rw [hf] at h; injection h with h; have := fstMark_lt hf; simp only [List.length_cons]; subst h; show j + 1 < _; omega
def markAt (l : Bs) : Int := match fstMark l with | none => -1 | some k => (k : Int)
def Asc (l : Bs) : Prop := ∀ c ∈ l, c.toNat < 128
theorem Asc.drop {l : Bs} (h : Asc l) (n : Nat) : Asc (l.drop n) := fun c hc => h c (List.mem_of_mem_drop hc)
theorem Asc.take {l : Bs} (h : Asc l) (n : Nat) : Asc (l.take n) := fun c hc => h c (List.mem_of_mem_take hc)
end Go.Proofs.Mv

namespace Go.Proofs.Tz
open Go.RowKit Mv

theorem str_get {l : Bs} {i : Nat} {c : UInt8} (hc : l[i]? = some c) (h : i < (str l).size) : (str l)[i]'h = c := by
  obtain ⟨h1, h2⟩ := List.getElem?_eq_some_iff.1 hc
  exact h2

def setIter (w : World) (b : Nat) (s : ByteArray) (p : Nat) : World := { w with heap := w.heap.setIfInBounds b (.stringIter s p) }

theorem setIter_at {w : World} {b : Nat} (s : ByteArray) (p : Nat) (h : b < w.heap.size) : (setIter w b s p).heap[b]? = some (.stringIter s p) := by
  simp [setIter, h]
theorem setIter_size (w : World) (b : Nat) (s : ByteArray) (p : Nat) : (setIter w b s p).heap.size = w.heap.size := by simp [setIter]
theorem setIter_other {w : World} {b k : Nat} (s : ByteArray) (p : Nat) (h : k ≠ b) : (setIter w b s p).heap[k]? = w.heap[k]? := by
  simp only [setIter]
  rw [Array.getElem?_setIfInBounds_ne (by omega)]
theorem below_setIter {B b : Nat} {a w : World} (h : Below B a w) (hb : B ≤ b) (s : ByteArray) (p : Nat) : Below B a (setIter w b s p) :=
  ⟨h.os, h.tape, h.output, by rw [setIter_size]; exact h.size, fun k hk => (setIter_other s p (by omega)).trans (h.block k hk)⟩

theorem run_next_at (w : World) (b : Nat) (s : ByteArray) (pos : Nat) (h : w.heap[b]? = some (.stringIter s pos)) (hp : pos < s.size) (ha : (s[pos]'hp).toNat < 128) (ty : TypeId) :
    (Instr.next (.pointer (some ⟨b, 0, none⟩)) true ty).run Tryz.prog w = .ok (.tuple #[.bool true, .int .i64 pos, .int .i32 (s[pos]'hp).toNat]) (setIter w b s (pos + 1)) := by
  simp only [Instr.next, getObj, setObj, Sem.run_bind, Sem.run, h, Result.andThen, hp, if_true, decode_ascii s pos hp ha]
  simp [goInt, setIter]
theorem run_next_str (w : World) (b : Nat) (l : Bs) (pos : Nat) (c : UInt8) (h : w.heap[b]? = some (.stringIter (str l) pos)) (hc : l[pos]? = some c) (ha : c.toNat < 128) (ty : TypeId) :
    (Instr.next (.pointer (some ⟨b, 0, none⟩)) true ty).run Tryz.prog w = .ok (.tuple #[.bool true, .int .i64 pos, .int .i32 (c.toNat : Int)]) (setIter w b (str l) (pos + 1)) := by
  have hp : pos < (str l).size := by rw [str_size]; exact (List.getElem?_eq_some_iff.1 hc).1
  have := run_next_at w b (str l) pos h hp (by rw [str_get hc]; exact ha) ty
  rw [str_get hc] at this
  exact this
theorem run_next_done (w : World) (b : Nat) (s : ByteArray) (pos : Nat) (h : w.heap[b]? = some (.stringIter s pos)) (hp : ¬ pos < s.size) (ty : TypeId) :
    (Instr.next (.pointer (some ⟨b, 0, none⟩)) true ty).run Tryz.prog w = .ok (.tuple #[.bool false]) w := by
  simp [Instr.next, getObj, Sem.run, h, hp]

set_option maxHeartbeats 2000000 in
set_option maxRecDepth 100000 in
theorem indexAny (l : Bs) (_hl : l.length ≤ 1000000) (ha : Asc l) (w : World) :
    Calls Tryz.prog 77 #[.string (str l), .string ⟨#[45, 46]⟩] w fun e w' => e = .returned (.int .i64 (markAt l)) ∧ Below w.heap.size w w' := by
  have HA := Lib.hid ha
  clear ha
  go_enter Tryz.func77, Tryz.ntmps77
  go_wp2_with fail
  obtain ⟨wo, rfl⟩ : ∃ wo : World, wo = w := ⟨_, rfl⟩
  go_loopw [5] (fun z wr => ∃ (zv : Value) (i : Nat), zv = z ∧ i ≤ l.length ∧ Hid (∀ j c, j < i → l[j]? = some c → isMark c = false) ∧ Hid (wr.heap[wo.heap.size]? = some (.stringIter (str l) i)) ∧ Hid (Below wo.heap.size wo wr)) (fun _ wr => l.length - wr.iterPos wo.heap.size)
  case atStart => exact ⟨_, 0, rfl, Nat.zero_le _, Lib.hid (fun j c hj => absurd hj (by omega)), Lib.hid (World.iter_heap _ _ _), Lib.hid ((Below.refl _ _).alloc (Nat.le_refl _) _)⟩
  case round =>
    obtain ⟨zv, i, rfl, hi, H1, H2, H3⟩ := hrel
    by_cases hp : i < l.length
    · obtain ⟨c, hc⟩ : ∃ c, l[i]? = some c := ⟨_, List.getElem?_eq_getElem hp⟩
      have hc128 : c.toNat < 128 := HA.out _ (List.mem_of_getElem? hc)
      have hnx := run_next_str wr wo.heap.size l i c H2.out hc hc128
      go_wp2_with fail
      have hb : wo.heap.size < wr.heap.size := by
        have := (Array.getElem?_eq_some_iff.1 H2.out).1
        exact this
      have e0 : (setIter wr wo.heap.size (str l) (i + 1)).heap.size = wr.heap.size := setIter_size _ _ _ _
      have i1 : ((setIter wr wo.heap.size (str l) (i + 1)).iter (str [45, 46]) 0).heap[wr.heap.size]? = some (.stringIter (str [45, 46]) 0) := by
        have := World.iter_heap (setIter wr wo.heap.size (str l) (i + 1)) (str [45, 46]) 0
        rwa [e0] at this
      have i2 : ((setIter wr wo.heap.size (str l) (i + 1)).iter (str [45, 46]) 0).heap[wo.heap.size]? = some (.stringIter (str l) (i + 1)) := by
        have := Below.heap_alloc (setIter wr wo.heap.size (str l) (i + 1)) (.stringIter (str [45, 46]) 0) wo.heap.size (by rw [e0]; exact hb)
        exact this.trans (setIter_at _ _ hb)
      have i3 : Below wo.heap.size wo ((setIter wr wo.heap.size (str l) (i + 1)).iter (str [45, 46]) 0) := (below_setIter H3.out (Nat.le_refl _) _ _).alloc (by rw [e0]; omega) _
      have HC := Lib.hid hc
      have I1 := Lib.hid i1
      have I2 := Lib.hid i2
      have I3 := Lib.hid i3
      have HB := Lib.hid hb
      have hsz : (setIter wr wo.heap.size (str l) (i + 1)).heap.size = wr.heap.size := e0
      clear hnx hc i1 i2 i3 hb e0
      obtain ⟨w1, rfl⟩ : ∃ w1 : World, w1 = wr := ⟨_, rfl⟩
      go_loopw [8] (fun z wq => ∃ (zw : Value) (j : Nat), zw = z ∧ j ≤ 2 ∧ Hid (∀ k d, k < j → ([45, 46] : Bs)[k]? = some d → c ≠ d) ∧ Hid (wq.heap[w1.heap.size]? = some (.stringIter (str [45, 46]) j)) ∧ Hid (wq.heap[wo.heap.size]? = some (.stringIter (str l) (i + 1))) ∧ Hid (Below wo.heap.size wo wq)) (fun _ wq => 2 - wq.iterPos w1.heap.size)
      case atStart => exact ⟨_, 0, rfl, Nat.zero_le _, Lib.hid (fun k d hk => absurd hk (by omega)), I1, I2, I3⟩
      case round =>
        obtain ⟨zw, j, rfl, hj, J1, J2, J3, J4⟩ := hrel
        by_cases hj2 : j < 2
        · obtain ⟨d, hd⟩ : ∃ d, ([45, 46] : Bs)[j]? = some d := ⟨_, List.getElem?_eq_getElem (by simpa using hj2)⟩
          have hdm : d.toNat = 45 ∨ d.toNat = 46 := by
            have : j = 0 ∨ j = 1 := by omega
            rcases this with rfl | rfl
            · left; simp at hd; subst hd; rfl
            · right; simp at hd; subst hd; rfl
          have hnx := run_next_str wr w1.heap.size [45, 46] j d J2.out hd (by omega)
          have HD := Lib.hid hd
          clear hd
          by_cases he : c.toNat = d.toNat
          · have he' : ((c.toNat : Int) == (d.toNat : Int)) = true := by simp [he]
            have HE := Lib.hid he
            have HM := Lib.hid hdm
            clear he hdm
            go_wp2_with fail
            go_ret
            have hlt := HB.out
            refine ⟨?_, below_setIter J4.out (Nat.le_of_lt HB.out) _ _⟩
            rw [markAt, fstMark_at hp H1.out (fun x hx => by
              rw [HC.out] at hx; injection hx with hx; subst hx
              rw [isMark_iff, HE.out]; exact HM.out)]
            rfl
          · have he' : ((c.toNat : Int) == (d.toNat : Int)) = false := by simp; omega
            have HE := Lib.hid he
            have hlt := HB.out
            have hs1 := (Array.getElem?_eq_some_iff.1 J2.out).1
            have k1 := setIter_at (w := wr) (str [45, 46]) (j + 1) hs1
            have k2 : (setIter wr w1.heap.size (str [45, 46]) (j + 1)).heap[wo.heap.size]? = some (.stringIter (str l) (i + 1)) := (setIter_other _ _ (by omega)).trans J3.out
            have k3 := below_setIter J4.out (Nat.le_of_lt hlt) (str [45, 46]) (j + 1)
            have K1 := Lib.hid k1
            have K2 := Lib.hid k2
            have K3 := Lib.hid k3
            have K4 : Hid (wr.iterPos w1.heap.size = j) := Lib.hid (iterPos_of J2.out)
            have K5 : Hid ((setIter wr w1.heap.size (str [45, 46]) (j + 1)).iterPos w1.heap.size = j + 1) := Lib.hid (iterPos_of k1)
            clear he k1 k2 k3 hs1 hdm
            go_wp2_with fail
            go_roundw
            case rel =>
              refine ⟨_, j + 1, rfl, by omega, Lib.hid ?_, K1, K2, K3⟩
              intro k x hk hx
              by_cases hkj : k = j
              · subst hkj; rw [HD.out] at hx; injection hx with hx; subst hx; intro e; exact HE.out (by rw [e])
              · exact J1.out k x (by omega) hx
            case measure =>
              simp only [K4.out, K5.out]; omega
        · have hje : j = 2 := by omega
          subst hje
          have hnx := run_next_done wr w1.heap.size (str [45, 46]) 2 J2.out (by decide)
          go_wp2_with fail
          go_roundw
          case rel =>
            refine ⟨_, i + 1, rfl, by omega, Lib.hid ?_, J3, J4⟩
            intro k x hk hx
            by_cases hki : k = i
            · subst hki; rw [HC.out] at hx; injection hx with hx; subst hx
              have a1 := J1.out 0 45 (by omega) rfl
              have a2 := J1.out 1 46 (by omega) rfl
              simp [isMark, a1, a2]
            · exact H1.out k x (by omega) hx
          case measure =>
            have K4 : wr.iterPos wo.heap.size = i + 1 := iterPos_of J3.out
            have K5 : w1.iterPos wo.heap.size = i := iterPos_of H2.out
            simp only [K4, K5]; omega
    · have hnx := run_next_done wr wo.heap.size (str l) i H2.out (by rw [str_size]; exact hp)
      go_wp2_with fail
      go_ret
      refine ⟨?_, H3.out⟩
      rw [markAt, fstMark_no (fun j c hj => H1.out j c (by have := (List.getElem?_eq_some_iff.1 hj).1; omega) hj)]
      rfl
end Go.Proofs.Tz

/- Contract of splitCharsInclusive. -/
namespace Go.Proofs.Tz
open Go.RowKit Mv

def sv (l : Bs) : Value := .string (str l)
def svs (ls : List Bs) : List Value := ls.map sv
theorem svs_append (a b : List Bs) : svs (a ++ b) = svs a ++ svs b := by simp [svs]
theorem svs_length (a : List Bs) : (svs a).length = a.length := by simp [svs]
def Strs (w : World) (base : Nat) (v : Value) (ls : List Bs) : Prop := w.ownsRow base 9 1 v ls.length (svs ls)
theorem Strs.nil (w : World) (base : Nat) : Strs w base (.slice none 0 0) [] := World.ownsRow_nil w base 9 1
def strLen : Value → Nat
  | .string s => s.size
  | _ => 0
theorem strLen_sv (l : Bs) : strLen (.string (str l)) = l.length := str_size l

theorem str_extract (l : Bs) (a b : Nat) : (str l).extract a b = str ((l.take b).drop a) := by
  apply ByteArray.ext
  have : (l.take b).drop a = (l.drop a).take (b - a) := by rw [List.drop_take]
  rw [this]
  simp [str]
theorem ownsRow_below {w w' : World} {base : Nat} {e : TypeId} {size : Nat} {v : Value} {n : Nat} {xs : List Value} (h : w.ownsRow base e size v n xs) (hb : Below w.heap.size w w') : w'.ownsRow base e size v n xs :=
  h.kept (row := none) (grownBy_below hb none) (by cases v.ownBlock <;> simp)
theorem sv_cell (l : Bs) : (sv l).oneCell' = true := rfl
theorem Strs.below {w w' : World} {base : Nat} {v : Value} {ls : List Bs} (h : Strs w base v ls) (hb : Below w.heap.size w w') : Strs w' base v ls := ownsRow_below h hb

theorem sl_h {l : Bs} {k : Nat} (h : k ≤ l.length) (w : World) : (Instr.slice 9 (.string (str l)) none (some (.int .i64 (k : Int))) none).run Tryz.prog w = .ok (.string (str (l.take k))) w := by
  have := run_slice_string_h (P := Tryz.prog) w 9 (str l) Tryz.underlying9 .i64 (k : Int) (by omega) (by rw [str_size]; omega)
  rw [this, str_extract, Int.toNat_natCast, List.drop_zero]
theorem sl_l {l : Bs} {k : Nat} (h : k ≤ l.length) (w : World) : (Instr.slice 9 (.string (str l)) (some (.int .i64 (k : Int))) none none).run Tryz.prog w = .ok (.string (str (l.drop k))) w := by
  have := run_slice_string_l (P := Tryz.prog) w 9 (str l) Tryz.underlying9 .i64 (k : Int) (by omega) (by rw [str_size]; omega)
  rw [this, str_extract, Int.toNat_natCast, str_size, List.take_length]
theorem sl_m {l : Bs} {i j : Nat} (hi : i ≤ j) (h : j ≤ l.length) (w : World) : (Instr.slice 9 (.string (str l)) (some (.int .i64 (i : Int))) (some (.int .i64 (j : Int))) none).run Tryz.prog w = .ok (.string (str ((l.take j).drop i))) w := by
  have := run_slice_string (P := Tryz.prog) w 9 (str l) .i64 .i64 (i : Int) (j : Int) Tryz.underlying9 (by omega) (by omega) (by rw [str_size]; omega)
  rw [this, str_extract, Int.toNat_natCast, Int.toNat_natCast]

theorem info9 : ∃ i, Tryz.prog.info? 9 = some i ∧ i.zero = some (.string ByteArray.empty) ∧ i.size = 1 ∧ i.bytes = 16 := by
  have h : (Tryz.prog.info? 9).map (fun i => (i.zero, i.size, i.bytes)) = some (some (.string ByteArray.empty), 1, 16) := by kernel_rfl
  obtain ⟨i, hi, hzz⟩ := Option.map_eq_some_iff.1 h
  simp only [Prod.mk.injEq] at hzz
  exact ⟨i, hi, hzz.1, hzz.2.1, hzz.2.2⟩

set_option maxHeartbeats 2000000 in
set_option maxRecDepth 100000 in
theorem split_any (l : Bs) (hl : l.length ≤ 1000000) (ha : Asc l) (w : World) :
    Calls Tryz.prog 67 #[.string (str l), .string ⟨#[45, 46]⟩] w fun e w' => ∃ v, e = .returned v ∧ Strs w' w.heap.size v (splitI l) ∧ Below w.heap.size w w' := by
  obtain ⟨i9, hi9, hz9, hs9, hb9⟩ := info9
  go_enter Tryz.func67, Tryz.ntmps67
  go_wp2_with fail
  obtain ⟨wo, rfl⟩ : ∃ wo : World, wo = w := ⟨_, rfl⟩
  go_loopw [0, 4, 5] (fun s o z wr => ∃ (zv v : Value) (rest : Bs) (done : List Bs), zv = z ∧ s = .string (str rest) ∧ v = o ∧ rest.length ≤ l.length ∧ Hid (Asc rest) ∧ Hid (done ++ splitI rest = splitI l) ∧ done.length ≤ 2 * (l.length - rest.length) ∧ Hid (Strs wr wo.heap.size v done) ∧ Hid (Below wo.heap.size wo wr)) (fun s _ _ _ => strLen s)
  case atStart => exact ⟨_, _, l, [], rfl, rfl, rfl, Nat.le_refl _, Lib.hid ha, Lib.hid rfl, by simp, Lib.hid (Strs.nil _ _), Lib.hid (Below.refl _ _)⟩
  case round =>
    obtain ⟨zv, v, rest, done, rfl, rfl, rfl, hr, H1, H2, hdl, H3, H4⟩ := hrel
    go_wp2_with fail
    (with_reducible refine (indexAny rest (by omega) H1.out wr).mono ?_)
    rintro e w1 ⟨rfl, hb⟩
    have hm : (fstMark rest = none ∧ markAt rest = -1) ∨ (∃ k, fstMark rest = some k ∧ markAt rest = (k : Int)) := by
      cases h : fstMark rest with
      | none => left; exact ⟨rfl, by rw [markAt, h]⟩
      | some k => right; exact ⟨k, rfl, by rw [markAt, h]⟩
    rcases hm with ⟨hm1, hm2⟩ | ⟨k, hm1, hm2⟩
    · rw [hm2]
      have hown := H3.out.below hb
      have hB := H4.out.trans (hb.mono H4.out.size)
      have HB := Lib.hid hB
      have HO := Lib.hid hown
      clear hown hB hb
      have hsz : wo.heap.size ≤ w1.heap.size := HB.out.size
      go_wp2_with (first | (at_builtin; refine wpList_append_lies _ rfl (.tmp 26) (.tmp 28) 22 rfl wo.heap.size 9 i9 (.string ByteArray.empty) 1 16 Tryz.underlying22 hi9 hz9 hs9 hb9 rfl (by decide) v done.length (svs done) rfl (HO.out.alloc _) ⟨w1.heap.size, 0, none⟩ 1 1 [sv rest] rfl rfl (cell_one_new _ _ _) (by intro u hu; simp at hu; subst hu; rfl) (by decide) (by unfold maxLen; omega) (by omega) (by simp; omega) _ rfl ?_; intro g cap w2 hown2 hgrow2 hat2 hlt2))
      go_ret
      refine ⟨_, rfl, ?_, ?_⟩
      · have : splitI l = done ++ [rest] := by rw [← H2.out, splitI_fst rest, hm1]
        rw [this]
        unfold Strs
        rw [svs_append, List.length_append]
        exact hown2
      · exact (HB.out.alloc hsz _).grown hgrow2 (by rw [size_alloc]; omega) (fun j hj => HO.out.lt j hj |>.1)
    · rw [hm2]
      have hk := fstMark_lt hm1
      have HK := Lib.hid hm1
      clear hm1 hm2
      go_wp2_with fail
      have hk1 : (k : Int) < (rest.length : Int) := by omega
      have hw1 : IntKind.i64.wrap ((k : Int) + 1) = (k : Int) + 1 := IntWalk.i64_in _ (by omega)
      have q1 := sl_h (l := rest) (k := k) (by omega)
      have q2 := sl_m (l := rest) (i := k) (j := k + 1) (by omega) (by omega)
      have q3 := sl_l (l := rest) (k := k + 1) (by omega)
      rw [show ((k + 1 : Nat) : Int) = (k : Int) + 1 by omega] at q2 q3
      have hown := H3.out.below hb
      have hB := H4.out.trans (hb.mono H4.out.size)
      have HB := Lib.hid hB
      have HO := Lib.hid hown
      clear hown hB hb
      have hsz : wo.heap.size ≤ w1.heap.size := HB.out.size
      go_region_held3 (fun _ => True) (first | trivial) ((refine step_append_lies _ (by rfl) (.tmp 11) (.tmp 20) 22 (by rfl) wo.heap.size 9 i9 (.string ByteArray.empty) 1 16 Tryz.underlying22 hi9 hz9 hs9 hb9 rfl (by decide) v done.length (svs done) (by rfl) (HO.out.alloc _) ⟨w1.heap.size, 0, none⟩ 2 2 [sv (rest.take k), sv ((rest.take (k + 1)).drop k)] (by rfl) rfl (World.news_of_block (cs := #[sv (rest.take k), sv ((rest.take (k + 1)).drop k)]) (t := 9) (fr := (0, 0)) (heap_alloc_new _ _)) (by intro u hu; simp at hu; rcases hu with rfl | rfl <;> rfl) (by decide) (by unfold maxLen; omega) (by omega) (by simp; omega) _ rfl ?_; intro g cap w2 hown2 hgrow2 hat2 hlt2))
      have hB2 : Below wo.heap.size wo w2 := (Below.alloc (Below.drew HB.out) hsz _).grown hgrow2 (by rw [size_alloc]; exact Nat.le_succ_of_le hsz) (fun j hj => HO.out.lt j hj |>.1)
      have hO2 : Strs w2 wo.heap.size (.slice (some ⟨g, 0, none⟩) (done.length + 2) cap) (done ++ [rest.take k, (rest.take (k + 1)).drop k]) := by
        unfold Strs
        rw [svs_append, List.length_append]
        exact hown2
      have HB2 := Lib.hid hB2
      have HO2 := Lib.hid hO2
      clear hB2 hO2 hown2 hgrow2 hat2 hlt2
      go_wp2_with fail
      go_roundw
      case rel =>
        refine ⟨_, _, rest.drop (k + 1), done ++ [rest.take k, (rest.take (k + 1)).drop k], rfl, rfl, rfl, ?_, Lib.hid (H1.out.drop _), Lib.hid ?_, ?_, HO2, HB2⟩
        · rw [List.length_drop]; omega
        · rw [← H2.out, splitI_fst rest, HK.out, List.append_assoc, List.drop_take, show k + 1 - k = 1 by omega]; rfl
        · rw [List.length_append, List.length_drop]; show done.length + 2 ≤ _; omega
      case measure =>
        show strLen (.string (str (rest.drop (k + 1)))) < strLen (.string (str rest))
        rw [strLen_sv, strLen_sv, List.length_drop]; omega
end Go.Proofs.Tz

/- Contracts of zzDigit and zzPairs. -/
namespace Go.Proofs.Mv

/-- The places at which a byte of kind b stands ahead of one of the other kind. -/
def pairs (b : Bool) (i : Nat) : Bs → List Nat
  | [] => []
  | a :: r => match r with
    | [] => []
    | c :: _ => if isDig a = b ∧ isDig c ≠ b then i :: pairs b (i + 1) r else pairs b (i + 1) r

theorem pairs_one {b : Bool} {i : Nat} {l : Bs} {a : UInt8} (h : l[i]? = some a) (hl : i + 1 = l.length) : pairs b i (l.drop i) = [] := by
  have : l.drop i = [a] := by
    rw [List.drop_eq_getElem_cons (by omega), List.drop_eq_nil_of_le (by omega)]
    rw [List.getElem?_eq_getElem (by omega)] at h
    injection h with h; rw [h]
  rw [this, pairs]
theorem drop_two {l : Bs} {i : Nat} {a c : UInt8} (h : l[i]? = some a) (h2 : l[i + 1]? = some c) : l.drop i = a :: c :: l.drop (i + 2) := by
  have hl := (List.getElem?_eq_some_iff.1 h2).1
  rw [List.drop_eq_getElem_cons (by omega), List.drop_eq_getElem_cons (by omega)]
  rw [List.getElem?_eq_getElem (by omega)] at h h2
  injection h with h; injection h2 with h2; rw [h, h2]
theorem drop_one {l : Bs} {i : Nat} {c : UInt8} (h2 : l[i + 1]? = some c) : l.drop (i + 1) = c :: l.drop (i + 2) := by
  have hl := (List.getElem?_eq_some_iff.1 h2).1
  rw [List.drop_eq_getElem_cons (by omega)]
  rw [List.getElem?_eq_getElem (by omega)] at h2
  injection h2 with h2; rw [h2]
theorem pairs_skip {b : Bool} {i : Nat} {l : Bs} {a : UInt8} (h : l[i]? = some a) (hn : isDig a ≠ b ∨ (∀ c, l[i + 1]? = some c → isDig c = b)) : pairs b i (l.drop i) = pairs b (i + 1) (l.drop (i + 1)) := by
  by_cases hl : i + 1 < l.length
  · obtain ⟨c, hc⟩ : ∃ c, l[i + 1]? = some c := ⟨_, List.getElem?_eq_getElem hl⟩
    rw [drop_two h hc, pairs, if_neg, drop_one hc]
    rintro ⟨h1, h2⟩
    rcases hn with hn | hn
    · exact hn h1
    · exact h2 (hn c hc)
  · have hi := (List.getElem?_eq_some_iff.1 h).1
    rw [pairs_one h (by omega), List.drop_eq_nil_of_le (by omega)]; rfl
theorem pairs_hit {b : Bool} {i : Nat} {l : Bs} {a c : UInt8} (h : l[i]? = some a) (h2 : l[i + 1]? = some c) (ha : isDig a = b) (hc : isDig c ≠ b) :
    pairs b i (l.drop i) = i :: pairs b (i + 2) (l.drop (i + 2)) := by
  rw [drop_two h h2, pairs, if_pos ⟨ha, hc⟩]
  have := pairs_skip (i := i + 1) h2 (.inl hc)
  rw [drop_one h2] at this
  rw [this]
theorem pairs_len (b : Bool) : ∀ (l : Bs) (i : Nat), (pairs b i l).length ≤ l.length
  | [], _ => by simp [pairs]
  | [a], _ => by simp [pairs]
  | a :: c :: r, i => by
    have := pairs_len b (c :: r) (i + 1)
    rw [pairs]
    split <;> simp only [List.length_cons] at * <;> omega
end Go.Proofs.Mv

namespace Go.Proofs.Tz
open Go.RowKit Mv

theorem u8cast (c : UInt8) (n : Nat) : (n ≤ c.toNat) = ((n : Int) ≤ (c.toNat : Int)) := by simp

set_option maxHeartbeats 1000000 in
theorem zzDigit (c : UInt8) (w : World) : Calls Tryz.prog 92 #[byt c] w fun e w' => e = .returned (.bool (isDig c)) ∧ w = w' := by
  have hlt : c.toNat < 256 := c.toNat_lt
  by_cases h1 : 48 ≤ c.toNat
  · by_cases h2 : c.toNat ≤ 57
    · have hd : isDig c = true := (isDig_iff c).2 ⟨h1, h2⟩
      rw [hd]
      unfold byt
      go_enter Tryz.func92, Tryz.ntmps92
      go_wp2
      go_ret
      exact ⟨by simp; omega, rfl⟩
    · have hd : isDig c = false := by rw [Bool.eq_false_iff]; intro h; exact h2 ((isDig_iff c).1 h).2
      rw [hd]
      unfold byt
      go_enter Tryz.func92, Tryz.ntmps92
      go_wp2
      go_ret
      exact ⟨by simp; omega, rfl⟩
  · have hd : isDig c = false := by rw [Bool.eq_false_iff]; intro h; exact h1 ((isDig_iff c).1 h).1
    rw [hd]
    unfold byt
    go_enter Tryz.func92, Tryz.ntmps92
    go_wp2
    go_ret
    exact ⟨by simp, rfl⟩

theorem str_index {l : Bs} {i : Nat} {c : UInt8} (h : l[i]? = some c) (w : World) : (Instr.index 9 (.string (str l)) (.int .i64 (i : Int))).run Tryz.prog w = .ok (byt c) w := by
  have hl := (List.getElem?_eq_some_iff.1 h).1
  have := run_index_string (P := Tryz.prog) w 9 (str l) .i64 (i : Int) Tryz.underlying9
  rw [this, dif_pos ⟨by omega, by rw [str_size]; omega⟩]
  have e : (str l)[((i : Int)).toNat]'(by rw [str_size]; omega) = c := str_get (by simpa using h) _
  rw [e]; rfl

theorem info95 : ∃ i, Tryz.prog.info? 95 = some i ∧ i.zero = some (.slice none 0 0) ∧ i.size = 1 ∧ i.bytes = 24 := by
  have h : (Tryz.prog.info? 95).map (fun i => (i.zero, i.size, i.bytes)) = some (some (.slice none 0 0), 1, 24) := by kernel_rfl
  obtain ⟨i, hi, hzz⟩ := Option.map_eq_some_iff.1 h
  simp only [Prod.mk.injEq] at hzz
  exact ⟨i, hi, hzz.1, hzz.2.1, hzz.2.2⟩
theorem info3 : ∃ i, Tryz.prog.info? 3 = some i ∧ i.zero = some (.int .i64 0) ∧ i.size = 1 ∧ i.bytes = 8 := by
  have h : (Tryz.prog.info? 3).map (fun i => (i.zero, i.size, i.bytes)) = some (some (.int .i64 0), 1, 8) := by kernel_rfl
  obtain ⟨i, hi, hzz⟩ := Option.map_eq_some_iff.1 h
  simp only [Prod.mk.injEq] at hzz
  exact ⟨i, hi, hzz.1, hzz.2.1, hzz.2.2⟩

/-- A list of pairs: each element lies in a block of its own; the first number of each. -/
def PairsAt (w : World) (base : Nat) (v : Value) (is : List Nat) : Prop :=
  ∃ bs : List Nat, bs.length = is.length ∧ w.ownsRow base 95 1 v is.length (bs.map fun b => .slice (some ⟨b, 0, none⟩) 2 2) ∧
    ∀ (j b i : Nat), bs[j]? = some b → is[j]? = some i → v.ownBlock ≠ some b ∧ base ≤ b ∧ w.cell? ⟨b, 0, none⟩ = some (.int .i64 (i : Int))

theorem PairsAt.nil (w : World) (base : Nat) : PairsAt w base (.slice none 0 0) [] := ⟨[], rfl, World.ownsRow_nil w base 95 1, by simp⟩
theorem PairsAt.below {w w' : World} {base : Nat} {v : Value} {is : List Nat} (h : PairsAt w base v is) (hb : Below w.heap.size w w') : PairsAt w' base v is := by
  obtain ⟨bs, h1, h2, h3⟩ := h
  refine ⟨bs, h1, ownsRow_below h2 hb, fun j b i hb' hi => ?_⟩
  obtain ⟨q1, q2, q3⟩ := h3 j b i hb' hi
  exact ⟨q1, q2, cell_keep hb q3⟩

set_option maxHeartbeats 4000000 in
set_option maxRecDepth 100000 in
theorem zzPairs (b : Bool) (l : Bs) (hl : l.length ≤ 1000000) (ha : Asc l) (w : World) :
    Calls Tryz.prog 78 #[.string (str l), .bool b] w fun e w' => ∃ v, e = .returned v ∧ PairsAt w' w.heap.size v (pairs b 0 l) ∧ Below w.heap.size w w' := by
  obtain ⟨i95, hi95, hz95, hs95, hb95⟩ := info95
  have HA := Lib.hid ha
  have hsl : (str l).size = l.length := str_size l
  clear ha
  go_enter Tryz.func78, Tryz.ntmps78
  go_wp2_with fail
  obtain ⟨wo, rfl⟩ : ∃ wo : World, wo = w := ⟨_, rfl⟩
  go_loopw [5, 6, 7, 8, 9] (fun o p z7 z8 z9 wr => ∃ (zv7 zv8 zv9 v : Value) (i : Nat) (done : List Nat), zv7 = z7 ∧ zv8 = z8 ∧ zv9 = z9 ∧ v = o ∧ p = .int .i64 (i : Int) ∧ i ≤ l.length ∧ Hid (done ++ pairs b i (l.drop i) = pairs b 0 l) ∧ Hid (PairsAt wr wo.heap.size v done) ∧ Hid (Below wo.heap.size wo wr)) (fun _ p _ _ _ _ => l.length - (intOf p).toNat)
  case atStart => exact ⟨_, _, _, _, 0, [], rfl, rfl, rfl, rfl, rfl, Nat.zero_le _, Lib.hid rfl, Lib.hid (PairsAt.nil _ _), Lib.hid (Below.refl _ _)⟩
  case round =>
    obtain ⟨zv7, zv8, zv9, v, i, done, rfl, rfl, rfl, rfl, rfl, hi, H1, H2, H3⟩ := hrel
    by_cases hp : i < l.length
    · obtain ⟨a, hai⟩ : ∃ a, l[i]? = some a := ⟨_, List.getElem?_eq_getElem hp⟩
      have ha128 : a.toNat < 128 := HA.out _ (List.mem_of_getElem? hai)
      have q1 := sl_l (l := l) (k := i) (by omega)
      have q2 := str_index hai
      have hdec := Tryz.utf8_DecodeRuneInString_ascii (str (l.drop i)) a wr (by rw [str_list, List.getElem?_drop, Nat.add_zero]; exact hai) ha128
      have HAI := Lib.hid hai
      have HD := Lib.hid hdec
      clear hai hdec
      go_wp2_with fail
      (with_reducible refine (HD.out).mono ?_)
      rintro e w1 ⟨rfl, rfl⟩
      go_wp2_with fail
      (with_reducible refine (zzDigit a _).mono ?_)
      rintro e w1 ⟨rfl, rfl⟩
      by_cases hab : isDig a = b
      · have hq : (isDig a == b) = true := by simp [hab]
        have HAB := Lib.hid hab
        clear hab
        by_cases hp2 : i + 1 < l.length
        · obtain ⟨c, hci⟩ : ∃ c, l[i + 1]? = some c := ⟨_, List.getElem?_eq_getElem hp2⟩
          have hc128 : c.toNat < 128 := HA.out _ (List.mem_of_getElem? hci)
          have q3 := str_index hci
          rw [show ((i + 1 : Nat) : Int) = (i : Int) + 1 by omega] at q3
          have HCI := Lib.hid hci
          clear hci
          go_wp2_with fail
          (with_reducible refine (zzDigit c _).mono ?_)
          rintro e w1 ⟨rfl, rfl⟩
          by_cases hcb : isDig c = b
          · have hq2 : (isDig c == b) = true := by simp [hcb]
            have HCB := Lib.hid hcb
            clear hcb
            go_wp2_with fail
            go_roundw
            case rel =>
              refine ⟨_, _, _, _, i + 1, done, rfl, rfl, rfl, rfl, by simp, by omega, Lib.hid ?_, H2, H3⟩
              rw [← pairs_skip HAI.out (.inr (fun c' hc' => by rw [HCI.out] at hc'; injection hc' with hc'; rw [← hc']; exact HCB.out))]
              exact H1.out
            case measure => simp [intOf]; omega
          · have hq2 : (isDig c == b) = false := by simp [hcb]
            have HCB := Lib.hid hcb
            clear hcb
            have q4 := sl_l (l := l) (k := i + 1) (by omega)
            rw [show ((i + 1 : Nat) : Int) = (i : Int) + 1 by omega] at q4
            have hdec := Tryz.utf8_DecodeRuneInString_ascii (str (l.drop (i + 1))) c w1 (by rw [str_list, List.getElem?_drop, Nat.add_zero]; exact HCI.out) hc128
            have HD2 := Lib.hid hdec
            clear hdec
            go_wp2_with fail
            (with_reducible refine (HD2.out).mono ?_)
            rintro e w2 ⟨rfl, rfl⟩
            obtain ⟨bs, hbl, hown, hin⟩ := H2.out
            have HO := Lib.hid hown
            have HI := Lib.hid hin
            have hdl : done.length ≤ l.length := by
              have h1 := congrArg List.length H1.out
              have h2 := pairs_len b l 0
              rw [List.length_append] at h1
              omega
            clear hown hin
            have hsz : wo.heap.size ≤ w2.heap.size := H3.out.size
            go_wp2_with (first | (at_builtin; refine wpList_append_lies _ rfl (.tmp 52) (.tmp 58) 106 rfl wo.heap.size 95 i95 (.slice none 0 0) 1 24 Tryz.underlying106 hi95 hz95 hs95 hb95 rfl (by decide) v done.length (bs.map fun b => .slice (some ⟨b, 0, none⟩) 2 2) rfl ((HO.out.alloc _).alloc _) ⟨w2.heap.size + 1, 0, none⟩ 1 1 [.slice (some ⟨w2.heap.size, 0, none⟩) 2 2] rfl rfl (by have := cell_one_new (w2.alloc (Obj.cells #[Value.int IntKind.i64 (i : Int), Value.int IntKind.i64 ((i : Int) + 2)] 3)) (.slice (some ⟨w2.heap.size, 0, none⟩) 2 2) 95; rw [size_alloc] at this; exact this) (by intro u hu; simp at hu; subst hu; rfl) (by decide) (by unfold maxLen; omega) (by omega) (by simp; omega) _ rfl ?_; intro g cap w3 hown3 hgrow3 hat3 hlt3))
            have hBW : Below w2.heap.size w2 ((w2.alloc (Obj.cells #[Value.int IntKind.i64 (i : Int), Value.int IntKind.i64 ((i : Int) + 1 + 1)] 3)).alloc (Obj.cells #[.slice (some ⟨w2.heap.size, 0, none⟩) 2 2] 95)) :=
              ((Below.refl w2.heap.size w2).alloc (Nat.le_refl _) _).alloc (by rw [size_alloc]; omega) _
            have hc0 : ((w2.alloc (Obj.cells #[Value.int IntKind.i64 (i : Int), Value.int IntKind.i64 ((i : Int) + 1 + 1)] 3)).alloc (Obj.cells #[.slice (some ⟨w2.heap.size, 0, none⟩) 2 2] 95)).cell? ⟨w2.heap.size, 0, none⟩ = some (.int .i64 (i : Int)) := by
              refine (World.cell?_of_block (a := ⟨w2.heap.size, 0, none⟩) (Below.heap_alloc _ _ w2.heap.size (by rw [size_alloc]; omega))).trans ?_
              exact cellNew _ _ _ _ _ rfl
            have hP3 : PairsAt w3 wo.heap.size (.slice (some ⟨g, 0, none⟩) (done.length + 1) cap) (done ++ [i]) := by
              refine ⟨bs ++ [w2.heap.size], by simp [hbl], ?_, ?_⟩
              · rw [List.length_append, List.map_append]
                exact hown3
              · intro j b' i' hb' hi'
                by_cases hj : j < bs.length
                · rw [List.getElem?_append_left hj] at hb'
                  rw [List.getElem?_append_left (by omega)] at hi'
                  obtain ⟨p1, p2, p3⟩ := HI.out j b' i' hb' hi'
                  have hlt : b' < w2.heap.size := World.block_lt_of_cell? w2 _ p3
                  refine ⟨?_, p2, hgrow3.cell (cell_keep hBW p3) (fun e => p1 e.symm)⟩
                  intro e
                  injection e with e
                  have e : g = b' := e
                  rcases hat3 with h | h
                  · exact p1 (by rw [h, e])
                  · rw [size_alloc, size_alloc] at h
                    omega
                · have hj2 := (List.getElem?_eq_some_iff.1 hb').1
                  rw [List.length_append, List.length_singleton] at hj2
                  have hje : j = bs.length := by omega
                  subst hje
                  rw [List.getElem?_append_right (Nat.le_refl _), Nat.sub_self] at hb'
                  rw [hbl, List.getElem?_append_right (Nat.le_refl _), Nat.sub_self] at hi'
                  injection hb' with hb'
                  injection hi' with hi'
                  subst hb' hi'
                  refine ⟨?_, hsz, hgrow3.cell hc0 (fun e => by have := (HO.out.lt _ e.symm).2; simp at this)⟩
                  intro e
                  injection e with e
                  have e : g = w2.heap.size := e
                  rcases hat3 with h | h
                  · have := (HO.out.lt _ h).2; omega
                  · rw [size_alloc, size_alloc] at h; omega
            have hB3 : Below wo.heap.size wo w3 := (H3.out.trans (hBW.mono hsz)).grown hgrow3 (by rw [size_alloc, size_alloc]; omega) (fun j hj => (HO.out.lt j hj).1)
            refine ⟨⟨_, _, _, _, i + 2, done ++ [i], rfl, rfl, rfl, rfl, by rw [show ((i + 2 : Nat) : Int) = (i : Int) + 1 + 1 by omega], by omega, Lib.hid ?_, Lib.hid hP3, Lib.hid hB3⟩, ?_⟩
            · rw [← H1.out, List.append_assoc, pairs_hit HAI.out HCI.out HAB.out HCB.out]; rfl
            · simp [intOf]; omega
        · have hp3 : (l.length : Int) ≤ (i : Int) + 1 := by omega
          go_wp2_with fail
          go_roundw
          case rel =>
            refine ⟨_, _, _, _, i + 1, done, rfl, rfl, rfl, rfl, by simp, by omega, Lib.hid ?_, H2, H3⟩
            rw [← pairs_skip HAI.out (.inr (fun c' hc' => by have := (List.getElem?_eq_some_iff.1 hc').1; omega))]
            exact H1.out
          case measure => simp [intOf]; omega
      · have hq : (isDig a == b) = false := by simp [hab]
        have HAB := Lib.hid hab
        clear hab
        go_wp2_with fail
        go_roundw
        case rel =>
          refine ⟨_, _, _, _, i + 1, done, rfl, rfl, rfl, rfl, by simp, by omega, Lib.hid ?_, H2, H3⟩
          rw [← pairs_skip HAI.out (.inl HAB.out)]
          exact H1.out
        case measure => simp [intOf]; omega
    · have he : i = l.length := by omega
      go_wp2_with fail
      go_ret
      have := H1.out
      rw [List.drop_eq_nil_of_le (by omega)] at this
      simp only [pairs, List.append_nil] at this
      rw [← this]
      exact ⟨_, rfl, H2.out, H3.out⟩
end Go.Proofs.Tz

/- sort.Ints: on nothing, and in words of rows. -/
namespace Go.Proofs.Mv

theorem transA_gt : ∀ (l : Bs) (i x : Nat), x ∈ transA i l → i < x
  | [], _, _, h => by simp [transA] at h
  | [a], _, _, h => by simp [transA] at h
  | a :: b :: r, i, x, h => by
    rw [transA] at h
    split at h
    · have := transA_gt (b :: r) (i + 1) x h; omega
    · rcases List.mem_cons.1 h with rfl | h
      · omega
      · have := transA_gt (b :: r) (i + 1) x h; omega
theorem transA_sorted : ∀ (l : Bs) (i : Nat), (transA i l).Pairwise (· < ·)
  | [], _ => by simp [transA]
  | [a], _ => by simp [transA]
  | a :: b :: r, i => by
    rw [transA]
    split
    · exact transA_sorted (b :: r) (i + 1)
    · exact List.Pairwise.cons (fun x hx => transA_gt (b :: r) (i + 1) x hx) (transA_sorted (b :: r) (i + 1))
theorem pairs_perm : ∀ (l : Bs) (i : Nat), ((pairs false i l).map (· + 1) ++ (pairs true i l).map (· + 1)).Perm (transA i l)
  | [], _ => by simp [pairs, transA]
  | [a], _ => by simp [pairs, transA]
  | a :: b :: r, i => by
    have ih := pairs_perm (b :: r) (i + 1)
    rw [transA, pairs, pairs]
    by_cases h : isDig a = isDig b
    · rw [if_pos h, if_neg (by rw [h]; rintro ⟨h1, h2⟩; exact h2 h1), if_neg (by rw [h]; rintro ⟨h1, h2⟩; exact h2 h1)]
      exact ih
    · rw [if_neg h]
      cases ha : isDig a with
      | false =>
        have hb : isDig b = true := by cases hb : isDig b with
          | true => rfl
          | false => exact absurd (ha.trans hb.symm) h
        rw [if_pos ⟨rfl, by rw [hb]; simp⟩, if_neg (by simp)]
        exact ih.cons (i + 1)
      | true =>
        have hb : isDig b = false := by cases hb : isDig b with
          | false => rfl
          | true => exact absurd (ha.trans hb.symm) h
        rw [if_neg (by simp), if_pos ⟨rfl, by rw [hb]; simp⟩, List.map_cons]
        exact List.perm_middle.trans (ih.cons (i + 1))

def ints (ns : List Nat) : List Int := ns.map (fun (n : Nat) => (n : Int))
theorem sorted_of_perm {ns ms : List Nat} (hp : ns.Perm ms) (hs : ms.Pairwise (· < ·)) : (ints ns).mergeSort (fun x y => decide (x ≤ y)) = ints ms := by
  have h1 : ((ints ns).mergeSort (fun x y => decide (x ≤ y))).Perm (ints ms) := (List.mergeSort_perm _ _).trans (hp.map _)
  have h2 : ((ints ns).mergeSort (fun x y => decide (x ≤ y))).Pairwise (fun x y => decide (x ≤ y) = true) := List.pairwise_mergeSort (fun a b c h1 h2 => by simp at *; omega) (fun a b => by simp; omega) _
  have h3 : (ints ms).Pairwise (fun x y => decide (x ≤ y) = true) := by
    unfold ints
    rw [List.pairwise_map]
    exact hs.imp (fun h => by simp; omega)
  exact List.Perm.eq_of_pairwise (fun a b _ _ h1 h2 => by simp at h1 h2; omega) h2 h3 h1
end Go.Proofs.Mv

namespace Go.Proofs.Tz
open Go.RowKit Mv

set_option maxHeartbeats 1000000 in
set_option maxRecDepth 100000 in
theorem ins_nil (w : World) : Calls Tryz.prog 125 #[.slice none 0 0, .int .i64 0, .int .i64 0] w fun e w' => e = .returned (.tuple #[]) ∧ w = w' := by
  go_enter Tryz.func125, Tryz.ntmps125
  go_wp2_with fail
  refine wp_loop_rounds 1 ?_
  rw [rounds_succ]
  go_wp2_with fail
  go_end0
  exact ⟨rfl, rfl⟩

set_option maxHeartbeats 2000000 in
set_option maxRecDepth 100000 in
theorem pdq_nil (n : Value) (w : World) : Calls Tryz.prog 107 #[.slice none 0 0, .int .i64 0, .int .i64 0, n] w fun e w' => e = .returned (.tuple #[]) ∧ w = w' := by
  go_enter Tryz.func107, Tryz.ntmps107
  go_wp2_with fail
  refine wp_loop_rounds 1 ?_
  rw [rounds_succ]
  go_wp2_with fail
  (with_reducible refine (ins_nil _).mono ?_)
  rintro e w1 ⟨rfl, rfl⟩
  go_wp2_with fail
  first | go_end0 | refine bodyPost_ret (results_none rfl _ _ _) rfl ?_
  exact ⟨rfl, rfl⟩

set_option maxHeartbeats 2000000 in
theorem slicesSort_nil (w : World) : Calls Tryz.prog 93 #[.slice none 0 0] w fun e w' => e = .returned (.tuple #[]) ∧ w = w' := by
  have hb := fun w => Tryz.bits_Len 0 w (by omega) (by omega)
  go_enter Tryz.func93, Tryz.ntmps93
  go_wp2_with fail
  (with_reducible refine (hb _).mono ?_)
  rintro e w1 ⟨rfl, rfl⟩
  go_wp2_with fail
  (with_reducible refine (pdq_nil _ _).mono ?_)
  rintro e w1 ⟨rfl, rfl⟩
  go_wp2_with fail
  go_end0
  exact ⟨rfl, rfl⟩

set_option maxHeartbeats 2000000 in
theorem sortInts_nil (w : World) : Calls Tryz.prog 79 #[.slice none 0 0] w fun e w' => e = .returned (.tuple #[]) ∧ w = w' := by
  go_enter Tryz.func79, Tryz.ntmps79
  go_wp2_with fail
  (with_reducible refine (slicesSort_nil _).mono ?_)
  rintro e w1 ⟨rfl, rfl⟩
  go_wp2_with fail
  go_end0
  exact ⟨rfl, rfl⟩

def Ints (w : World) (base : Nat) (v : Value) (ns : List Nat) : Prop := w.ownsRow base 3 1 v ns.length (ns.map fun (n : Nat) => .int .i64 (n : Int))
theorem Ints.nil (w : World) (base : Nat) : Ints w base (.slice none 0 0) [] := World.ownsRow_nil w base 3 1
theorem Ints.below {w w' : World} {base : Nat} {v : Value} {ls : List Nat} (h : Ints w base v ls) (hb : Below w.heap.size w w') : Ints w' base v ls := ownsRow_below h hb
theorem Ints.len {w : World} {base : Nat} {v : Value} {ls : List Nat} (h : Ints w base v ls) : (v = .slice none 0 0 ∧ ls = []) ∨ ∃ g cap, v = .slice (some ⟨g, 0, none⟩) ls.length cap ∧ base ≤ g ∧ g < w.heap.size := by
  rcases h.2 with ⟨h1, h2⟩ | ⟨g, cap, cur, h1, h2, h3, _⟩
  · exact .inl ⟨h1, List.eq_nil_of_length_eq_zero h2⟩
  · refine .inr ⟨g, cap, h1, h2, ?_⟩
    exact (Array.getElem?_eq_some_iff.1 h3).1

/-- sort.Ints on a row of the call's own. -/
theorem sortInts_any (base : Nat) (v : Value) (ns ms : List Nat) (w : World) (h : Ints w base v ns) (hm : ns.length ≤ 10000000) (hp : ns.Perm ms) (hs : ms.Pairwise (· < ·)) :
    Calls Tryz.prog 79 #[v] w fun e w' => e = .returned (.tuple #[]) ∧ Ints w' base v ms ∧ w.grownBy w' v.ownBlock := by
  rcases h.2 with ⟨rfl, h2⟩ | ⟨g, cap, cur, rfl, h2, h3, h4, h5, h6, h7⟩
  · have h0 : ns = [] := List.eq_nil_of_length_eq_zero h2
    subst h0
    have h1 : ms = [] := hp.nil_eq.symm
    subst h1
    refine (sortInts_nil w).mono ?_
    rintro e w' ⟨rfl, rfl⟩
    exact ⟨rfl, h, grownBy_refl _ _⟩
  · have hg : g < w.heap.size := (Array.getElem?_eq_some_iff.1 h3).1
    have hArr : Arr w g 3 cur.toList := by unfold Arr; simpa using h3
    have hcell : ∀ (j x : Nat), ns[j]? = some x → cur[j]? = some (.int .i64 (x : Int)) := by
      intro j x hj
      have hjl := (List.getElem?_eq_some_iff.1 hj).1
      have e1 : (cur.toList.take (ns.length * 1))[j]? = some (.int .i64 (x : Int)) := by rw [h7]; simp [hj]
      rw [List.getElem?_take_of_lt (by omega)] at e1
      simpa using e1
    have hH : Sort.Holds (Value.int .i64) w g 0 (ints ns).toArray := by
      intro j hj
      have hjl : j < ns.length := by simpa [ints] using hj
      have hx := hcell j ns[j] (List.getElem?_eq_getElem hjl)
      rw [Nat.zero_add]
      refine ⟨?_, ?_⟩
      · rw [cell_of_row w g j cur 3 (0, 0) h3, hx]
        simp [ints, hjl]
      · exact hArr.free j
    have hlen : (ints ns).length = ns.length := by simp [ints]
    have := Tryz.sort_Ints g 0 cap (ints ns) w hH hg (by rw [hlen]; omega)
    rw [hlen] at this
    refine this.mono ?_
    rintro e w' ⟨rfl, n, os, rfl⟩
    rw [sorted_of_perm hp hs]
    have hml : ms.length = ns.length := hp.length_eq.symm
    have hgr : g < (Sort.putRow (Value.int .i64) (Sort.ahead w n) g 0 (ints ms).toArray).heap.size := by rw [Sort.size_putRow]; exact hg
    have hh : (Sort.grow (Sort.putRow (Value.int .i64) (Sort.ahead w n) g 0 (ints ms).toArray) os).heap[g]? = some (.cells (Sort.putCells (Value.int .i64) 0 (ints ms).toArray cur) 3 (0, 0)) := by
      rw [Sort.heap_grow_old _ _ hgr]
      simp only [Sort.putRow, Sort.mapBlock, Sort.heap_ahead, Array.getElem?_modify, h3]
      simp [Sort.onCells]
    refine ⟨rfl, ⟨by simp [hml], .inr ⟨g, cap, _, by rw [hml], h2, hh, by omega, h5, ?_, ?_⟩⟩, ⟨rfl, rfl, rfl, ?_, ?_⟩⟩
    · simp [Sort.putCells]; omega
    · apply List.ext_getElem?
      intro j
      by_cases hj : j < ms.length
      · rw [List.getElem?_take_of_lt (by omega)]
        have hjc : j < cur.size := by omega
        simp [Sort.putCells, ints, hj, hjc]
      · rw [List.getElem?_eq_none (by simp; omega), List.getElem?_eq_none (by simp; omega)]
    · rw [Sort.size_grow, Sort.size_putRow]; show w.heap.size ≤ w.heap.size + _; omega
    · intro k hk hne
      have hkg : ¬ g = k := fun e => hne (by rw [← e]; rfl)
      rw [Sort.heap_grow_old _ _ (by rw [Sort.size_putRow]; exact hk)]
      simp only [Sort.putRow, Sort.mapBlock, Sort.heap_ahead, Array.getElem?_modify, if_neg hkg]
end Go.Proofs.Tz

/- Contract of mavenFindTransitions. -/
namespace Go.Proofs.Tz
open Go.RowKit Mv

theorem PairsAt.read {w : World} {base : Nat} {v : Value} {is : List Nat} (h : PairsAt w base v is) {j i : Nat} (hj : is[j]? = some i) :
    ∃ g cap b, v = .slice (some ⟨g, 0, none⟩) is.length cap ∧ base ≤ g ∧ g < w.heap.size ∧ base ≤ b ∧ b < w.heap.size ∧ w.cell? ⟨g, j, none⟩ = some (.slice (some ⟨b, 0, none⟩) 2 2) ∧ w.cell? ⟨b, 0, none⟩ = some (.int .i64 (i : Int)) := by
  obtain ⟨bs, h1, h2, h3⟩ := h
  have hjl := (List.getElem?_eq_some_iff.1 hj).1
  obtain ⟨b, hb⟩ : ∃ b, bs[j]? = some b := ⟨_, List.getElem?_eq_getElem (by omega)⟩
  obtain ⟨_, p2, p3⟩ := h3 j b i hb hj
  obtain ⟨g, cap, rfl, q1, q2⟩ := h2.form (by omega)
  have hc := h2.cells (g := g) rfl j (.slice (some ⟨b, 0, none⟩) 2 2) (by simp [hb])
  have ha : (⟨g, 0, none⟩ : Addr).add j = ⟨g, j, none⟩ := by unfold Addr.add; split <;> simp_all
  rw [ha] at hc
  exact ⟨g, cap, b, rfl, q1, q2, p2, World.block_lt_of_cell? w _ p3, hc, p3⟩
theorem PairsAt.len {w : World} {base : Nat} {v : Value} {is : List Nat} (h : PairsAt w base v is) : ∃ a c, v = .slice a is.length c := by
  obtain ⟨bs, h1, h2, h3⟩ := h
  rcases h2.2 with ⟨h, h0⟩ | ⟨g, cap, cur, h, _⟩
  · exact ⟨none, 0, by rw [h, h0]⟩
  · exact ⟨_, _, h⟩

/-- The blocks between lo and hi are as they were. -/
def Same (lo hi : Nat) (w w' : World) : Prop := ∀ k, lo ≤ k → k < hi → w'.heap[k]? = w.heap[k]?
theorem Same.refl (lo hi : Nat) (w : World) : Same lo hi w w := fun _ _ _ => rfl
theorem Same.cell {lo hi : Nat} {w w' : World} (h : Same lo hi w w') {a : Addr} (h1 : lo ≤ a.block) (h2 : a.block < hi) {v : Value} (hc : w.cell? a = some v) : w'.cell? a = some v := (World.cell?_of_block (h a.block h1 h2)).trans hc
theorem Same.below {lo hi : Nat} {w a b : World} (h : Same lo hi w a) (hh : hi ≤ a.heap.size) (hb : Below a.heap.size a b) : Same lo hi w b := fun k h1 h2 => (hb.block k (by omega)).trans (h k h1 h2)
theorem Same.grown {lo hi : Nat} {w a b : World} (h : Same lo hi w a) (hh : hi ≤ a.heap.size) {row : Option Nat} (hg : a.grownBy b row) (hr : ∀ k, row = some k → k < lo ∨ hi ≤ k) : Same lo hi w b :=
  fun k h1 h2 => (hg.block k (by omega) (fun e => by have := hr k e.symm; omega)).trans (h k h1 h2)

theorem pairs_lt (b : Bool) : ∀ (l : Bs) (i x : Nat), x ∈ pairs b i l → x < i + l.length
  | [], _, _, h => by simp [pairs] at h
  | [a], _, _, h => by simp [pairs] at h
  | a :: c :: r, i, x, h => by
    rw [pairs] at h
    split at h
    · rcases List.mem_cons.1 h with rfl | h
      · simp only [List.length_cons]; omega
      · have := pairs_lt b (c :: r) (i + 1) x h; simp only [List.length_cons] at *; omega
    · have := pairs_lt b (c :: r) (i + 1) x h; simp only [List.length_cons] at *; omega

/-- A number as a value. -/
def nvl (n : Nat) : Value := .int .i64 (n : Int)
theorem take_snoc {α : Type} {l : List α} {j : Nat} {x : α} (h : l[j]? = some x) : l.take (j + 1) = l.take j ++ [x] := by
  have hl := (List.getElem?_eq_some_iff.1 h).1
  rw [List.take_add_one, h]; rfl

set_option maxHeartbeats 4000000 in
set_option maxRecDepth 100000 in
theorem transitions_any (l : Bs) (hl : l.length ≤ 1000000) (ha : Asc l) (w : World) :
    Calls Tryz.prog 68 #[.string (str l)] w fun e w' => ∃ v, e = .returned v ∧ Ints w' w.heap.size v (transA 0 l) ∧ Below w.heap.size w w' := by
  obtain ⟨i3, hi3, hz3, hs3, hb3⟩ := info3
  have HA := Lib.hid ha
  clear ha
  go_enter Tryz.func68, Tryz.ntmps68
  go_wp2_with fail
  obtain ⟨wo, rfl⟩ : ∃ wo : World, wo = w := ⟨_, rfl⟩
  (with_reducible refine (zzPairs false l hl HA.out _).mono ?_)
  rintro e w1 ⟨v1, rfl, hP1, hB1⟩
  obtain ⟨a1, c1, rfl⟩ := hP1.len
  have hpl1 := pairs_len false l 0
  obtain ⟨p1, hp1⟩ : ∃ p, p = pairs false 0 l := ⟨_, rfl⟩
  rw [← hp1] at hP1 hpl1 ⊢
  have hlt1 : ∀ x ∈ p1, x < 1000000 := fun x hx => by rw [hp1] at hx; have := pairs_lt false l 0 x hx; omega
  have HLT1 := Lib.hid hlt1
  have HPE1 := Lib.hid hp1
  clear hp1 hlt1
  have HP1 := Lib.hid hP1
  have HB1 := Lib.hid hB1
  clear hP1 hB1
  go_wp2_with fail
  go_loopw [2, 4, 10] (fun o z x wr => ∃ (zv v : Value) (j : Nat), zv = z ∧ v = o ∧ x = .int .i64 (j : Int) ∧ j ≤ p1.length ∧ Hid (wr.ownsRow wo.heap.size 3 1 v j ((p1.take j).map fun n => nvl (n + 1))) ∧ Hid (Below wo.heap.size wo wr) ∧ Hid (Same wo.heap.size w1.heap.size w1 wr) ∧ w1.heap.size ≤ wr.heap.size ∧ Hid (∀ k, v.ownBlock = some k → k < wo.heap.size ∨ w1.heap.size ≤ k)) (fun _ _ x _ => p1.length - (intOf x).toNat)
  case atStart => exact ⟨_, _, 0, rfl, rfl, rfl, Nat.zero_le _, Lib.hid (World.ownsRow_nil _ _ _ _), HB1, Lib.hid (Same.refl _ _ _), Nat.le_refl _, Lib.hid (fun k hk => by cases hk)⟩
  case round =>
    obtain ⟨zv, v, j, rfl, rfl, rfl, hj, H1, H2, H3, hsz, H4⟩ := hrel
    by_cases hjl : j < p1.length
    · obtain ⟨i, hi⟩ : ∃ i, p1[j]? = some i := ⟨_, List.getElem?_eq_getElem hjl⟩
      obtain ⟨g, cap, b, hv, q1, q2, q3, q4, q5, q6⟩ := HP1.out.read hi
      have hil : i < 1000000 := HLT1.out i (List.mem_of_getElem? hi)
      injection hv with hv1 hv2 hv3
      subst hv1 hv3
      have k5 := H3.out.cell (a := ⟨g, j, none⟩) q1 q2 q5
      have k6 := H3.out.cell (a := ⟨b, 0, none⟩) q3 q4 q6
      have HI := Lib.hid hi
      have hszo : wo.heap.size ≤ wr.heap.size := H2.out.size
      clear hi q1 q2 q3 q4 q5 q6
      go_wp2_with (first | (at_builtin; refine wpList_append_lies _ rfl (.tmp 14) (.tmp 19) 95 rfl wo.heap.size 3 i3 (.int .i64 0) 1 8 Tryz.underlying95 hi3 hz3 hs3 hb3 rfl (by decide) v j ((p1.take j).map fun n => nvl (n + 1)) rfl (H1.out.alloc _) ⟨wr.heap.size, 0, none⟩ 1 1 [.int .i64 ((i : Int) + 1)] rfl rfl (cell_one_new _ _ _) (by intro u hu; simp at hu; subst hu; rfl) (by decide) (by unfold maxLen; omega) (by omega) (by simp; omega) _ rfl ?_; intro gg cc w3 hown3 hgrow3 hat3 hlt3))
      have hB3 : Below wo.heap.size wo w3 := (H2.out.alloc hszo _).grown hgrow3 (by rw [size_alloc]; omega) (fun k hk => (H1.out.lt k hk).1)
      have hS3 : Same wo.heap.size w1.heap.size w1 w3 := (H3.out.below hsz ((Below.refl wr.heap.size wr).alloc (Nat.le_refl _) _)).grown (by rw [size_alloc]; omega) hgrow3 H4.out
      have hO3 : w3.ownsRow wo.heap.size 3 1 (.slice (some ⟨gg, 0, none⟩) (j + 1) cc) (j + 1) ((p1.take (j + 1)).map fun n => nvl (n + 1)) := by
        rw [take_snoc HI.out, List.map_append]
        exact hown3
      refine ⟨⟨_, _, j + 1, rfl, rfl, by simp, by omega, Lib.hid hO3, Lib.hid hB3, Lib.hid hS3, ?_, Lib.hid ?_⟩, ?_⟩
      · have := hgrow3.size; rw [size_alloc] at this; omega
      · intro k hk
        injection hk with hk
        have hk : gg = k := hk
        rcases hat3 with h | h
        · exact H4.out k (by rw [h, hk])
        · rw [size_alloc] at h; omega
      · simp [intOf]; omega
    · have hje : j = p1.length := by omega
      have hown1 : wr.ownsRow wo.heap.size 3 1 v p1.length (p1.map fun n => nvl (n + 1)) := by
        have := H1.out
        rwa [hje, List.take_length] at this
      have HO1 := Lib.hid hown1
      have HJE := Lib.hid hje
      clear hown1 hje
      go_wp2_with fail
      obtain ⟨wB, rfl⟩ : ∃ wB : World, wB = wr := ⟨_, rfl⟩
      (with_reducible refine (zzPairs true l hl HA.out _).mono ?_)
      rintro e w2 ⟨v2, rfl, hP2, hB2⟩
      obtain ⟨a2, c2, rfl⟩ := hP2.len
      have hpl2 := pairs_len true l 0
      obtain ⟨p2, hp2⟩ : ∃ p, p = pairs true 0 l := ⟨_, rfl⟩
      rw [← hp2] at hP2 hpl2 ⊢
      have hlt2 : ∀ x ∈ p2, x < 1000000 := fun x hx => by rw [hp2] at hx; have := pairs_lt true l 0 x hx; omega
      have HLT2 := Lib.hid hlt2
      have HPE2 := Lib.hid hp2
      have HP2 := Lib.hid hP2
      have HB2 := Lib.hid (H2.out.trans (hB2.mono H2.out.size))
      have HO2 := Lib.hid (ownsRow_below HO1.out hB2)
      have hszB : wo.heap.size ≤ wB.heap.size := H2.out.size
      have HLB : Hid (∀ k, v.ownBlock = some k → k < wB.heap.size) := Lib.hid (fun k hk => (H1.out.lt k hk).2)
      clear hp2 hlt2 hP2 hB2
      go_wp2_with fail
      go_loopw [2, 6, 25] (fun o z x wr => ∃ (zv vv : Value) (i : Nat), zv = z ∧ vv = o ∧ x = .int .i64 (i : Int) ∧ i ≤ p2.length ∧ Hid (wr.ownsRow wo.heap.size 3 1 vv (p1.length + i) ((p1.map fun n => nvl (n + 1)) ++ ((p2.take i).map fun n => nvl (n + 1)))) ∧ Hid (Below wo.heap.size wo wr) ∧ Hid (Same wB.heap.size w2.heap.size w2 wr) ∧ w2.heap.size ≤ wr.heap.size ∧ Hid (∀ k, vv.ownBlock = some k → k < wB.heap.size ∨ w2.heap.size ≤ k)) (fun _ _ x _ => p2.length - (intOf x).toNat)
      case atStart => exact ⟨_, _, 0, rfl, rfl, rfl, Nat.zero_le _, Lib.hid (by simpa using HO2.out), HB2, Lib.hid (Same.refl _ _ _), Nat.le_refl _, Lib.hid (fun k hk => .inl (HLB.out k hk))⟩
      case round =>
        obtain ⟨zv2, vv, i, rfl, rfl, rfl, hi, J1, J2, J3, hsz2, J4⟩ := hrel
        by_cases hil : i < p2.length
        · obtain ⟨x, hx⟩ : ∃ x, p2[i]? = some x := ⟨_, List.getElem?_eq_getElem hil⟩
          obtain ⟨g, cap, b, hv, q1, q2, q3, q4, q5, q6⟩ := HP2.out.read hx
          have hxl : x < 1000000 := HLT2.out x (List.mem_of_getElem? hx)
          injection hv with hv1 hv2 hv3
          subst hv1 hv3
          have k5 := J3.out.cell (a := ⟨g, i, none⟩) q1 q2 q5
          have k6 := J3.out.cell (a := ⟨b, 0, none⟩) q3 q4 q6
          have HI := Lib.hid hx
          have hszo : wo.heap.size ≤ wr.heap.size := J2.out.size
          clear hx q1 q2 q3 q4 q5 q6
          go_wp2_with (first | (at_builtin; refine wpList_append_lies _ rfl (.tmp 29) (.tmp 34) 95 rfl wo.heap.size 3 i3 (.int .i64 0) 1 8 Tryz.underlying95 hi3 hz3 hs3 hb3 rfl (by decide) vv (p1.length + i) ((p1.map fun n => nvl (n + 1)) ++ ((p2.take i).map fun n => nvl (n + 1))) rfl (J1.out.alloc _) ⟨wr.heap.size, 0, none⟩ 1 1 [.int .i64 ((x : Int) + 1)] rfl rfl (cell_one_new _ _ _) (by intro u hu; simp at hu; subst hu; rfl) (by decide) (by unfold maxLen; omega) (by omega) (by simp; omega) _ rfl ?_; intro gg cc w3 hown3 hgrow3 hat3 hlt3))
          have hB3 : Below wo.heap.size wo w3 := (J2.out.alloc hszo _).grown hgrow3 (by rw [size_alloc]; omega) (fun k hk => (J1.out.lt k hk).1)
          have hS3 : Same wB.heap.size w2.heap.size w2 w3 := (J3.out.below hsz2 ((Below.refl wr.heap.size wr).alloc (Nat.le_refl _) _)).grown (by rw [size_alloc]; omega) hgrow3 J4.out
          have hO3 : w3.ownsRow wo.heap.size 3 1 (.slice (some ⟨gg, 0, none⟩) (p1.length + i + 1) cc) (p1.length + (i + 1)) ((p1.map fun n => nvl (n + 1)) ++ ((p2.take (i + 1)).map fun n => nvl (n + 1))) := by
            rw [take_snoc HI.out, List.map_append, ← List.append_assoc]
            exact hown3
          refine ⟨⟨_, _, i + 1, rfl, rfl, by simp, by omega, Lib.hid hO3, Lib.hid hB3, Lib.hid hS3, ?_, Lib.hid ?_⟩, ?_⟩
          · have := hgrow3.size; rw [size_alloc] at this; omega
          · intro k hk
            injection hk with hk
            have hk : gg = k := hk
            rcases hat3 with h | h
            · exact J4.out k (by rw [h, hk])
            · rw [size_alloc] at h; omega
          · simp [intOf]; omega
        · have hie : i = p2.length := by omega
          have hfin : Ints wr wo.heap.size vv (p1.map (· + 1) ++ p2.map (· + 1)) := by
            have := J1.out
            rw [hie, List.take_length] at this
            unfold Ints
            have e1 : (p1.map (· + 1) ++ p2.map (· + 1)).length = p1.length + p2.length := by simp
            have e2 : ((p1.map (· + 1) ++ p2.map (· + 1)).map fun (n : Nat) => Value.int .i64 (n : Int)) = (p1.map fun n => nvl (n + 1)) ++ (p2.map fun n => nvl (n + 1)) := by
              rw [List.map_append, List.map_map, List.map_map]; rfl
            rw [e1, e2]
            exact this
          have hperm : (p1.map (· + 1) ++ p2.map (· + 1)).Perm (transA 0 l) := by rw [HPE1.out, HPE2.out]; exact pairs_perm l 0
          have hso := sortInts_any wo.heap.size vv _ _ wr hfin (by simp; omega) hperm (transA_sorted l 0)
          have HSO := Lib.hid hso
          have HOB : Hid (∀ k, vv.ownBlock = some k → wo.heap.size ≤ k) := Lib.hid (fun k hk => (J1.out.lt k hk).1)
          clear hie hfin hperm hso
          go_wp2_with fail
          (with_reducible refine (HSO.out).mono ?_)
          rintro e w3 ⟨rfl, h1, h2⟩
          go_wp2_with fail
          go_ret
          exact ⟨_, rfl, h1, J2.out.grown h2 J2.out.size HOB.out⟩
end Go.Proofs.Tz

/- Plain: the pieces of a raw token, and their values step by step. -/
namespace Go.Proofs.Mv
open Go.Proofs.Tz

def f1 (q : Bs) : Bs := if q = [] then [48] else q
def f2 (q : Bs) : Bs := if q = sCr then sRc else q
def f3 (q : Bs) : Bs := if q = sGa ∨ q = sFinal ∨ q = sRelease then [] else q
def f4 (m : Bool) (q : Bs) : Bs := if m = false then q else if q = [97] then sAlpha else if q = [98] then sBeta else if q = [109] then sMile else q
def f5 (q : Bs) : Bs := if allDig q = true then dec (dval q) else q

def Piece (q : Bs) : Prop := q = [] ∨ allDig q = true ∨ NoNum q
theorem f_cases (q : Bs) (m : Bool) : (q = [] ∧ f4 m (f3 (f2 (f1 q))) = [48]) ∨ (allDig q = true ∧ f4 m (f3 (f2 (f1 q))) = q) ∨ (q ≠ [] ∧ allDig q = false ∧ f4 m (f3 (f2 (f1 q))) = nv q m) := by
  by_cases h0 : q = []
  · left; subst h0
    refine ⟨rfl, ?_⟩
    cases m <;> decide
  · by_cases hd : allDig q = true
    · right; left
      refine ⟨hd, ?_⟩
      have hne : ∀ s : Bs, allDig s = false → q ≠ s := fun s hs e => by rw [e, hs] at hd; cases hd
      have n1 := hne sCr (by decide)
      have n2 := hne sGa (by decide)
      have n3 := hne sFinal (by decide)
      have n4 := hne sRelease (by decide)
      have n5 := hne [97] (by decide)
      have n6 := hne [98] (by decide)
      have n7 := hne [109] (by decide)
      simp [f1, f2, f3, f4, h0, n1, n2, n3, n4, n5, n6, n7]
    · right; right
      have hd' : allDig q = false := by simpa using hd
      refine ⟨h0, hd', ?_⟩
      rw [nv, if_neg h0, if_neg hd, f1, if_neg h0]
      by_cases h1 : q = sCr
      · subst h1
        rw [if_pos rfl]
        cases m <;> decide
      · rw [if_neg h1, f2, if_neg h1]
        by_cases h2 : q = sGa ∨ q = sFinal ∨ q = sRelease
        · rw [if_pos h2, f3, if_pos h2]
          cases m <;> decide
        · rw [if_neg h2, f3, if_neg h2, f4]
          cases m
          · simp
          · simp
theorem nv_f (q : Bs) (m : Bool) : f5 (f4 m (f3 (f2 (f1 q)))) = nv q m := by
  rcases f_cases q m with ⟨h0, h⟩ | ⟨hd, h⟩ | ⟨h0, hd, h⟩
  · subst h0
    rw [h, nv, if_pos rfl, f5, if_pos (by decide)]
    exact dec_head.2 rfl
  · rw [h, f5, if_pos hd, nv_dig ((allDig_iff q).1 hd).1 ((allDig_iff q).1 hd).2, strip_dec q ((allDig_iff q).1 hd).1 ((allDig_iff q).1 hd).2]
  · rw [h, f5]
    have : allDig (nv q m) = false := by
      rw [nv, if_neg h0, if_neg (by rw [hd]; simp)]
      repeat' split
      all_goals first | decide | assumption
    rw [if_neg (by rw [this]; simp)]
theorem f_ok {q : Bs} (hq : Piece q) (m : Bool) : allDig (f4 m (f3 (f2 (f1 q)))) = true ∨ NoNum (f4 m (f3 (f2 (f1 q)))) := by
  rcases f_cases q m with ⟨h0, h⟩ | ⟨hd, h⟩ | ⟨h0, hd, h⟩
  · left; rw [h]; decide
  · left; rw [h]; exact hd
  · right
    rw [h, nv, if_neg h0, if_neg (by rw [hd]; simp)]
    have hn : NoNum q := by
      rcases hq with h | h | h
      · exact absurd h h0
      · rw [hd] at h; cases h
      · exact h
    repeat' split
    all_goals first | exact hn | (unfold NoNum; decide)
theorem f_small {q : Bs} {m : Bool} {V : Nat} (hV : 0 < V) (h : allDig q = true → dval q < V) (hd : allDig (f4 m (f3 (f2 (f1 q)))) = true) : dval (f4 m (f3 (f2 (f1 q)))) < V := by
  rcases f_cases q m with ⟨h0, e⟩ | ⟨hd', e⟩ | ⟨h0, hd', e⟩
  · rw [e]; show 0 < V; exact hV
  · rw [e]; exact h hd'
  · rw [e] at hd
    exfalso
    rw [nv, if_neg h0, if_neg (by rw [hd']; simp)] at hd
    revert hd
    repeat' split
    all_goals first | decide | (rw [hd']; simp)
theorem f_len (q : Bs) (m : Bool) : (f4 m (f3 (f2 (f1 q)))).length ≤ q.length + 9 := by
  rcases f_cases q m with ⟨h0, e⟩ | ⟨hd', e⟩ | ⟨h0, hd', e⟩
  · rw [e]; simp
  · rw [e]; omega
  · rw [e, nv, if_neg h0, if_neg (by rw [hd']; simp)]
    repeat' split
    all_goals first | omega | (simp [sRc, sAlpha, sBeta, sMile])
theorem nv_noFG (q : Bs) (m : Bool) : nv q m ≠ sFinal ∧ nv q m ≠ sGa := by
  have hd : ∀ s : Bs, allDig s = false → allDig q = true → strip q ≠ s := by
    intro s hs hq e
    have h1 := ((allDig_iff q).1 hq)
    rw [strip_dec q h1.1 h1.2] at e
    have : allDig (dec (dval q)) = true := (allDig_iff _).2 ⟨dec_ne_nil _, dec_dig _⟩
    rw [e, hs] at this; cases this
  rw [nv]
  split
  · decide
  · split
    · rename_i h; exact ⟨hd _ (by decide) h, hd _ (by decide) h⟩
    · split
      · decide
      · split
        · decide
        · rename_i h
          repeat' split
          all_goals first | decide | exact ⟨fun e => h (.inr (.inl e)), fun e => h (.inl e)⟩

theorem toLowerA_eq (l : Bs) : Lib.toLowerA l = lower l := by
  unfold Lib.toLowerA lower
  apply List.map_congr_left
  intro c _
  simp only [Lib.lowerB, Lib.isUpperB, low]
  rfl

def cuts (r : Bs) : List Nat := transA 0 r ++ [r.length]
theorem mem_transA : ∀ (l : Bs) (i j : Nat) (a b : UInt8), l[j]? = some a → l[j + 1]? = some b → isDig a ≠ isDig b → i + j + 1 ∈ transA i l
  | [], _, _, _, _, h, _, _ => by simp at h
  | [x], _, j, _, _, _, h, _ => by simp at h
  | x :: y :: r, i, 0, a, b, h1, h2, h3 => by
    simp at h1 h2; subst h1 h2
    rw [transA, if_neg h3]; simp
  | x :: y :: r, i, j + 1, a, b, h1, h2, h3 => by
    have := mem_transA (y :: r) (i + 1) j a b (by simpa using h1) (by simpa using h2) h3
    rw [transA]
    rw [show i + (j + 1) + 1 = i + 1 + j + 1 by omega]
    split
    · exact this
    · exact List.mem_cons_of_mem _ this
theorem transA_lt : ∀ (l : Bs) (i x : Nat), x ∈ transA i l → x < i + l.length
  | [], _, _, h => by simp [transA] at h
  | [a], _, _, h => by simp [transA] at h
  | a :: c :: r, i, x, h => by
    rw [transA] at h
    split at h
    · have := transA_lt (c :: r) (i + 1) x h; simp only [List.length_cons] at *; omega
    · rcases List.mem_cons.1 h with rfl | h
      · simp only [List.length_cons]; omega
      · have := transA_lt (c :: r) (i + 1) x h; simp only [List.length_cons] at *; omega
theorem cuts_sorted (r : Bs) : (cuts r).Pairwise (· < ·) := by
  unfold cuts
  rw [List.pairwise_append]
  refine ⟨transA_sorted r 0, by simp, fun a ha b hb => ?_⟩
  simp at hb; subst hb
  have := transA_lt r 0 a ha; omega
theorem cuts_le (r : Bs) : ∀ x ∈ cuts r, x ≤ r.length := by
  intro x hx
  rcases List.mem_append.1 hx with h | h
  · have := transA_lt r 0 x h; omega
  · simp at h; omega
theorem homog_list : ∀ (p : Bs), (∀ (j : Nat) (a b : UInt8), p[j]? = some a → p[j + 1]? = some b → isDig a = isDig b) → p = [] ∨ (p ≠ [] ∧ ∀ c ∈ p, isDig c = true) ∨ (∀ c ∈ p, isDig c = false)
  | [], _ => .inl rfl
  | [a], _ => by
    right
    cases h : isDig a
    · right; simp [h]
    · left; simp [h]
  | a :: b :: r, h => by
    right
    have h0 := h 0 a b rfl rfl
    have ih := homog_list (b :: r) (fun j x y h1 h2 => h (j + 1) x y (by simpa using h1) (by simpa using h2))
    rcases ih with e | ⟨_, e⟩ | e
    · simp at e
    · left
      refine ⟨by simp, fun c hc => ?_⟩
      rcases List.mem_cons.1 hc with rfl | hc
      · rw [h0]; exact e b (by simp)
      · exact e c hc
    · right
      intro c hc
      rcases List.mem_cons.1 hc with rfl | hc
      · rw [h0]; exact e b (by simp)
      · exact e c hc
/-- The piece between two cuts that stand side by side. -/
theorem piece_ok {r : Bs} (hm : ∀ c ∈ r, isMark c = false) {done ts : List Nat} {prev t : Nat} (hc : cuts r = done ++ t :: ts) (hp : prev = done.getLastD 0) :
    Piece (lower ((r.drop prev).take (t - prev))) ∧ prev ≤ t ∧ t ≤ r.length := by
  have hs := cuts_sorted r
  rw [hc] at hs
  have hs2 := List.pairwise_append.1 hs
  have htl : t ≤ r.length := cuts_le r t (by rw [hc]; simp)
  have hpt : prev ≤ t := by
    rcases List.eq_nil_or_concat done with h | ⟨l, x, h⟩
    · subst h; rw [hp]; exact Nat.zero_le _
    · rw [List.concat_eq_append] at h
      subst h
      have := hs2.2.2 x (by simp) t (by simp)
      rw [hp]; simp; omega
  have hno : ∀ x, x ∈ cuts r → prev < x → t ≤ x := by
    intro x hx hpx
    rw [hc] at hx
    rcases List.mem_append.1 hx with h | h
    · exfalso
      rcases List.eq_nil_or_concat done with h' | ⟨l, y, h'⟩
      · subst h'; simp at h
      · rw [List.concat_eq_append] at h'
        subst h'
        rw [List.getLastD_concat] at hp
        rcases List.mem_append.1 h with h | h
        · have := (List.pairwise_append.1 hs2.1).2.2 x h y (by simp); omega
        · simp at h; omega
    · rcases List.mem_cons.1 h with rfl | h
      · exact Nat.le_refl _
      · have := (List.pairwise_cons.1 hs2.2.1).1 x h; omega
  refine ⟨?_, hpt, htl⟩
  obtain ⟨p, hpe⟩ : ∃ p, p = (r.drop prev).take (t - prev) := ⟨_, rfl⟩
  rw [← hpe]
  have hget : ∀ j, j < t - prev → p[j]? = r[prev + j]? := fun j hj => by rw [hpe, List.getElem?_take_of_lt hj, List.getElem?_drop]
  have hlen : p.length ≤ t - prev := by rw [hpe, List.length_take]; omega
  have hmp : ∀ c ∈ p, isMark c = false := fun c hc => hm c (by rw [hpe] at hc; exact List.mem_of_mem_drop (List.mem_of_mem_take hc))
  have hh := homog_list p (fun j a b h1 h2 => by
    have hj := (List.getElem?_eq_some_iff.1 h2).1
    rw [hget j (by omega)] at h1
    rw [hget (j + 1) (by omega)] at h2
    by_cases e : isDig a = isDig b
    · exact e
    · exfalso
      have := mem_transA r 0 (prev + j) a b h1 (by rw [Nat.add_assoc]; exact h2) e
      have := hno (0 + (prev + j) + 1) (by unfold cuts; exact List.mem_append_left _ this) (by omega)
      omega)
  rcases hh with h | ⟨h1, h2⟩ | h
  · left; rw [h]; rfl
  · right; left
    rw [allDig_iff]
    refine ⟨by simpa [lower] using h1, fun c hc => ?_⟩
    obtain ⟨x, hx, rfl⟩ := List.mem_map.1 hc
    rw [isDig_low]; exact h2 x hx
  · right; right
    intro c hc
    obtain ⟨x, hx, rfl⟩ := List.mem_map.1 hc
    rw [isDig_low]
    refine ⟨h x hx, fun e => ?_⟩
    have := isMark_low x
    rw [e, hmp x hx] at this
    simp [isMark] at this
end Go.Proofs.Mv

/- Plain and memory words for newMavenVersion. -/
namespace Go.Proofs.Mv
open Go.Proofs.Tz

def evenOk : List Bs → Prop
  | [] => True
  | r :: rest => (∀ c ∈ r, isMark c = false) ∧ match rest with
    | [] => True
    | _ :: more => evenOk more
termination_by l => l.length
theorem evenOk_cons (r : Bs) (rest : List Bs) : evenOk (r :: rest) ↔ (∀ c ∈ r, isMark c = false) ∧ evenOk (rest.drop 1) := by
  cases rest with
  | nil => rw [evenOk.eq_def]; simp [evenOk]
  | cons d more => rw [evenOk.eq_def]; simp
theorem fstMark_none : ∀ {l : Bs}, fstMark l = none → ∀ c ∈ l, isMark c = false
  | [], _, c, hc => by simp at hc
  | x :: r, h, c, hc => by
    rw [fstMark] at h
    split at h
    · cases h
    · rename_i hx
      cases hf : fstMark r with
      | some k => rw [hf] at h; cases h
      | none =>
        rcases List.mem_cons.1 hc with rfl | hc
        · simpa using hx
        · exact fstMark_none hf c hc
theorem fstMark_take : ∀ {l : Bs} {k : Nat}, fstMark l = some k → ∀ c ∈ l.take k, isMark c = false
  | x :: r, k, h, c, hc => by
    rw [fstMark] at h
    split at h
    · injection h with h; subst h; simp at hc
    · rename_i hx
      cases hf : fstMark r with
      | none => rw [hf] at h; cases h
      | some j =>
        rw [hf] at h; injection h with h
        have h : j + 1 = k := h
        subst h
        rw [List.take_succ_cons] at hc
        rcases List.mem_cons.1 hc with rfl | hc
        · simpa using hx
        · exact fstMark_take hf c hc
theorem evenOk_split (l : Bs) : evenOk (splitI l) := by
  obtain ⟨n, hn⟩ : ∃ n, l.length = n := ⟨_, rfl⟩
  induction n using Nat.strongRecOn generalizing l with
  | _ n ih =>
    rw [splitI_fst]
    cases hf : fstMark l with
    | none => exact (evenOk_cons _ _).2 ⟨fstMark_none hf, by simp [evenOk]⟩
    | some k =>
      have := fstMark_lt hf
      exact (evenOk_cons _ _).2 ⟨fstMark_take hf, ih (l.drop (k + 1)).length (by rw [List.length_drop]; omega) _ rfl⟩
theorem split_mem_len (l : Bs) : ∀ r ∈ splitI l, r.length ≤ l.length := by
  obtain ⟨n, hn⟩ : ∃ n, l.length = n := ⟨_, rfl⟩
  induction n using Nat.strongRecOn generalizing l with
  | _ n ih =>
    intro r hr
    rw [splitI_fst] at hr
    cases hf : fstMark l with
    | none => rw [hf] at hr; simp at hr; subst hr; exact Nat.le_refl _
    | some k =>
      rw [hf] at hr
      have hk := fstMark_lt hf
      rcases List.mem_cons.1 hr with rfl | hr
      · rw [List.length_take]; omega
      · rcases List.mem_cons.1 hr with rfl | hr
        · rw [List.length_take, List.length_drop]; omega
        · have := ih (l.drop (k + 1)).length (by rw [List.length_drop]; omega) _ rfl r hr
          rw [List.length_drop] at this; omega
theorem split_asc {l : Bs} (ha : Asc l) : ∀ r ∈ splitI l, Asc r := by
  obtain ⟨n, hn⟩ : ∃ n, l.length = n := ⟨_, rfl⟩
  induction n using Nat.strongRecOn generalizing l with
  | _ n ih =>
    intro r hr
    rw [splitI_fst] at hr
    cases hf : fstMark l with
    | none => rw [hf] at hr; simp at hr; subst hr; exact ha
    | some k =>
      rw [hf] at hr
      have hk := fstMark_lt hf
      rcases List.mem_cons.1 hr with rfl | hr
      · exact ha.take k
      · rcases List.mem_cons.1 hr with rfl | hr
        · exact (ha.drop k).take 1
        · exact ih (l.drop (k + 1)).length (by rw [List.length_drop]; omega) (ha.drop _) rfl r hr
theorem split_len (l : Bs) : (splitI l).length ≤ 2 * l.length + 1 := by
  obtain ⟨n, hn⟩ : ∃ n, l.length = n := ⟨_, rfl⟩
  induction n using Nat.strongRecOn generalizing l with
  | _ n ih =>
    rw [splitI_fst]
    cases hf : fstMark l with
    | none => simp
    | some k =>
      have hk := fstMark_lt hf
      have := ih (l.drop (k + 1)).length (by rw [List.length_drop]; omega) _ rfl
      simp only [List.length_cons]
      rw [List.length_drop] at this
      omega

/-- The mark ahead of raw token number i. -/
def preAt (raws : List Bs) (i : Nat) : Bs := if i = 0 then [] else raws.getD (i - 1) []
theorem tokR_nil (pre : Bs) : tokR pre [] = [] := by rw [tokR]
theorem tokR_step {raws : List Bs} {i : Nat} {r : Bs} (h : raws[i]? = some r) (pre : Bs) : tokR pre (raws.drop i) = rtok r pre ++ tokR (preAt raws (i + 2)) (raws.drop (i + 2)) := by
  have hl := (List.getElem?_eq_some_iff.1 h).1
  have hd : raws.drop i = r :: raws.drop (i + 1) := by
    rw [List.drop_eq_getElem_cons hl]
    rw [List.getElem?_eq_getElem hl] at h
    injection h with h; rw [h]
  by_cases h2 : i + 1 < raws.length
  · have hd2 : raws.drop (i + 1) = raws[i + 1] :: raws.drop (i + 2) := List.drop_eq_getElem_cons h2
    rw [hd, hd2, tokR]
    have : preAt raws (i + 2) = raws[i + 1] := by
      rw [preAt, if_neg (by omega), show i + 2 - 1 = i + 1 by omega, List.getD_eq_getElem?_getD, List.getElem?_eq_getElem h2]; rfl
    rw [this]
  · rw [hd, List.drop_eq_nil_of_le (by omega : raws.length ≤ i + 1), List.drop_eq_nil_of_le (by omega : raws.length ≤ i + 2), tokR_nil, tokR, List.append_nil]
theorem tokL_len : ∀ (r pre cur : Bs), (tokL pre cur r).length ≤ r.length + 1
  | [], _, _ => by simp [tokL]
  | c :: r, pre, cur => by
    rw [tokL]
    split
    · have := tokL_len r [c] []; simp only [List.length_cons]; omega
    · split
      · have := tokL_len r [45] [c]; simp only [List.length_cons]; omega
      · have := tokL_len r pre (cur ++ [c]); simp only [List.length_cons]; omega
theorem tokR_len (l : Bs) : (tokR [] (splitI l)).length ≤ l.length + 1 := by
  rw [tokR_tokL]
  have := tokL_len (lower l) [] []
  rwa [show (lower l).length = l.length by simp [lower]] at this
theorem rtok_cuts (r pre : Bs) : rtok r pre = ptok r pre 0 (cuts r) := rfl
theorem cuts_len (r : Bs) : (cuts r).length ≤ r.length + 1 := by
  have h : ∀ (l : Bs) (i : Nat), (transA i l).length ≤ l.length := by
    intro l
    induction l with
    | nil => intro i; simp [transA]
    | cons a r ih =>
      intro i
      cases r with
      | nil => simp [transA]
      | cons b r =>
        have := ih (i + 1)
        rw [transA]; split <;> simp only [List.length_cons] at * <;> omega
  have := h r 0
  simp only [cuts, List.length_append, List.length_singleton]; omega
end Go.Proofs.Mv

namespace Go.Proofs.Tz
open Go.RowKit Mv

def tcells (t : Tok) : List Value := [sv t.p, sv t.v, .bool t.n]
def tcs (ts : List Tok) : List Value := ts.flatMap tcells
theorem tcs_append (a b : List Tok) : tcs (a ++ b) = tcs a ++ tcs b := by simp [tcs]
theorem tcs_length (ts : List Tok) : (tcs ts).length = ts.length * 3 := by
  induction ts with
  | nil => rfl
  | cons t r ih => rw [show tcs (t :: r) = tcells t ++ tcs r from rfl, List.length_append, ih, List.length_cons]; simp [tcells]; omega
/-- A row of tokens of type T. -/
def Toks (T : TypeId) (w : World) (base : Nat) (v : Value) (ts : List Tok) : Prop := w.ownsRow base T 3 v ts.length (tcs ts)
theorem Toks.below {T : TypeId} {w w' : World} {base : Nat} {v : Value} {ts : List Tok} (h : Toks T w base v ts) (hb : Below w.heap.size w w') : Toks T w' base v ts := ownsRow_below h hb
theorem len_le {ws : List Nat} {K : Nat} (hn : Nrm ws) (hv : val ws < WB ^ K) : ws.length ≤ K := by
  by_cases h : ws = []
  · subst h; exact Nat.zero_le _
  · have := val_pos_of_nrm hn h
    by_cases hk : ws.length ≤ K
    · exact hk
    · exfalso
      have h2 : WB ^ K ≤ WB ^ (ws.length - 1) := Nat.pow_le_pow_right WB_pos (by omega)
      omega
theorem info84 : ∃ i z, Tryz.prog.info? 84 = some i ∧ i.zero = some z ∧ i.size = 3 ∧ i.bytes = 40 ∧ z.cells.size = 3 := by
  have h : (Tryz.prog.info? 84).map (fun i => (i.zero.map (fun z => z.cells.size), i.size, i.bytes)) = some (some 3, 3, 40) := by kernel_rfl
  obtain ⟨i, hi, hzz⟩ := Option.map_eq_some_iff.1 h
  simp only [Prod.mk.injEq] at hzz
  obtain ⟨z, hz, hzc⟩ := Option.map_eq_some_iff.1 hzz.1
  exact ⟨i, z, hi, hz, hzz.2.1, hzz.2.2, hzc⟩
theorem ownsRow_mono {w : World} {b b' : Nat} {e : TypeId} {size : Nat} {v : Value} {n : Nat} {xs : List Value} (h : w.ownsRow b e size v n xs) (hb : b' ≤ b) : w.ownsRow b' e size v n xs := by
  refine ⟨h.1, ?_⟩
  rcases h.2 with h | ⟨g, cap, cur, h1, h2, h3⟩
  · exact .inl h
  · exact .inr ⟨g, cap, cur, h1, by omega, h3⟩
/-- A string read out of a row of strings. -/
theorem Strs.read {w : World} {base : Nat} {v : Value} {ls : List Bs} (h : Strs w base v ls) {j : Nat} {s : Bs} (hj : ls[j]? = some s) :
    ∃ g cap, v = .slice (some ⟨g, 0, none⟩) ls.length cap ∧ base ≤ g ∧ g < w.heap.size ∧ w.cell? ⟨g, j, none⟩ = some (.string (str s)) := by
  have hjl := (List.getElem?_eq_some_iff.1 hj).1
  obtain ⟨g, cap, rfl, q1, q2⟩ := h.form (by omega)
  have hc := h.cells (g := g) rfl j (sv s) (by simp [svs, hj])
  have ha : (⟨g, 0, none⟩ : Addr).add j = ⟨g, j, none⟩ := by unfold Addr.add; split <;> simp_all
  rw [ha] at hc
  exact ⟨g, cap, rfl, q1, q2, hc⟩
theorem Ints.read {w : World} {base : Nat} {v : Value} {ns : List Nat} (h : Ints w base v ns) {j x : Nat} (hj : ns[j]? = some x) :
    ∃ g cap, v = .slice (some ⟨g, 0, none⟩) ns.length cap ∧ base ≤ g ∧ g < w.heap.size ∧ w.cell? ⟨g, j, none⟩ = some (.int .i64 (x : Int)) := by
  have hjl := (List.getElem?_eq_some_iff.1 hj).1
  obtain ⟨g, cap, rfl, q1, q2⟩ := h.form (by omega)
  have hc := h.cells (g := g) rfl j (.int .i64 (x : Int)) (by simp [hj])
  have ha : (⟨g, 0, none⟩ : Addr).add j = ⟨g, j, none⟩ := by unfold Addr.add; split <;> simp_all
  rw [ha] at hc
  exact ⟨g, cap, rfl, q1, q2, hc⟩
end Go.Proofs.Tz

/- Contract of shouldTrim. -/
namespace Go.Proofs.Mv
theorem tokL_nv : ∀ (r pre cur : Bs) (t : Tok), t ∈ tokL pre cur r → ∃ q m, t.v = nv q m
  | [], pre, cur, t, h => by
    rw [tokL] at h; simp at h; subst h; exact ⟨_, _, rfl⟩
  | c :: r, pre, cur, t, h => by
    rw [tokL] at h
    split at h
    · rcases List.mem_cons.1 h with rfl | h
      · exact ⟨_, _, rfl⟩
      · exact tokL_nv r _ _ t h
    · split at h
      · rcases List.mem_cons.1 h with rfl | h
        · exact ⟨_, _, rfl⟩
        · exact tokL_nv r _ _ t h
      · exact tokL_nv r _ _ t h
theorem tokR_noFG (l : Bs) : ∀ t ∈ tokR [] (splitI l), t.v ≠ sFinal ∧ t.v ≠ sGa := by
  intro t ht
  rw [tokR_tokL] at ht
  obtain ⟨q, m, h⟩ := tokL_nv _ _ _ t ht
  rw [h]
  exact nv_noFG q m
end Go.Proofs.Mv

namespace Go.Proofs.Tz
open Go.RowKit Mv

/-- One token read out of a row. -/
theorem Toks.read {T : TypeId} {w : World} {base : Nat} {v : Value} {a b : List Tok} {t : Tok} (h : Toks T w base v (a ++ t :: b)) :
    ∃ g cap, v = .slice (some ⟨g, 0, none⟩) (a.length + b.length + 1) cap ∧ base ≤ g ∧ g < w.heap.size ∧
      w.cell? ⟨g, a.length * 3, none⟩ = some (.string (str t.p)) ∧ w.cell? ⟨g, a.length * 3 + 1, none⟩ = some (.string (str t.v)) ∧ w.cell? ⟨g, a.length * 3 + 2, none⟩ = some (.bool t.n) := by
  have hl : (a ++ t :: b).length = a.length + b.length + 1 := by simp; omega
  obtain ⟨g, cap, hv, q1, q2⟩ := h.form (by omega)
  have hc := fun j u hj => h.cells (g := g) (by rw [hv]; rfl) j u hj
  have hx : tcs (a ++ t :: b) = tcs a ++ (sv t.p :: sv t.v :: Value.bool t.n :: tcs b) := by rw [tcs_append]; rfl
  have hg : ∀ i u, i < 3 → ([sv t.p, sv t.v, Value.bool t.n] : List Value)[i]? = some u → w.cell? ⟨g, a.length * 3 + i, none⟩ = some u := by
    intro i u hi hu
    have := hc (a.length * 3 + i) u (by
      rw [hx, List.getElem?_append_right (by rw [tcs_length]; omega), tcs_length, show a.length * 3 + i - a.length * 3 = i by omega]
      match i, hi with
      | 0, _ => exact hu
      | 1, _ => exact hu
      | 2, _ => exact hu)
    have ha : (⟨g, 0, none⟩ : Addr).add (a.length * 3 + i) = ⟨g, a.length * 3 + i, none⟩ := by unfold Addr.add; split <;> simp_all
    rwa [ha] at this
  rw [hl] at hv
  exact ⟨g, cap, hv, q1, q2, hg 0 _ (by omega) rfl, hg 1 _ (by omega) rfl, hg 2 _ (by omega) rfl⟩

theorem str_toList (q : Bs) : (str q).toList = q := by
  rw [ByteArray.toList_eq]
  exact str_list q

set_option maxHeartbeats 2000000 in
theorem shouldTrim_any (g o : Nat) (t : Tok) (w : World) (hc : w.cell? ⟨g, o + 1, none⟩ = some (.string (str t.v))) (h1 : t.v ≠ sFinal) (h2 : t.v ≠ sGa) :
    Calls Tryz.prog 72 #[.pointer (some ⟨g, o, none⟩)] w fun e w' => e = .returned (.bool (isNull t)) ∧ w = w' := by
  obtain ⟨q, hq⟩ : ∃ q, q = t.v := ⟨_, rfl⟩
  rw [← hq] at hc h1 h2
  have hn : isNull t = (decide (q = [48]) || decide (q = [])) := by rw [isNull, ← hq]
  rw [hn]
  clear hq hn
  have htl := str_toList
  have t1 : ByteArray.toList { data := #[48] } = [48] := str_toList [48]
  have t2 : ByteArray.toList { data := #[103, 97] } = sGa := str_toList sGa
  have t3 : ByteArray.toList { data := #[102, 105, 110, 97, 108] } = sFinal := str_toList sFinal
  by_cases n1 : q = [48]
  · have m1 : (q == [48]) = true := by simp [n1]
    have N1 := Lib.hid n1
    clear n1
    go_enter Tryz.func72, Tryz.ntmps72
    go_wp2_with fail
    go_ret
    exact ⟨by rw [N1.out]; rfl, rfl⟩
  · by_cases n2 : q = []
    · have m1 : (q == [48]) = false := by simp [n1]
      have m2 : q.isEmpty = true := by simp [n2]
      have N1 := Lib.hid n2
      clear n1 n2
      go_enter Tryz.func72, Tryz.ntmps72
      go_wp2_with fail
      go_ret
      exact ⟨by rw [N1.out]; rfl, rfl⟩
    · have m1 : (q == [48]) = false := by simp [n1]
      have m2 : q.isEmpty = false := by simp [n2]
      have m3 : (q == sFinal) = false := by simp [h1]
      have m4 : (q == sGa) = false := by simp [h2]
      have N1 := Lib.hid (And.intro n1 n2)
      go_enter Tryz.func72, Tryz.ntmps72
      go_wp2_with fail
      go_ret
      exact ⟨by simp [n1, n2], rfl⟩
end Go.Proofs.Tz

/- A token taken out of a row in place. -/
namespace Go.Proofs.Tz
open Go.RowKit Mv

theorem tcs_one (u : Value) (ts : List Tok) (h : u ∈ tcs ts) : u.oneCell' = true := by
  simp only [tcs, List.mem_flatMap] at h
  obtain ⟨t, _, h⟩ := h
  simp [tcells] at h
  rcases h with rfl | rfl | rfl <;> rfl

theorem remove_run (g cap base : Nat) (a b : List Tok) (t : Tok) (w : World) (h : Toks 84 w base (.slice (some ⟨g, 0, none⟩) (a.length + b.length + 1) cap) (a ++ t :: b)) :
    ∃ row, (∀ ty, (Builtin.append_ #[64, 64] ty #[.slice (some ⟨g, 0, none⟩) a.length cap, .slice (if cap = a.length + 1 then some ⟨g, 0, none⟩ else some ⟨g, (a.length + 1) * 3, none⟩) b.length (cap - (a.length + 1))]).run Tryz.prog w = .ok (.slice (some ⟨g, 0, none⟩) (a.length + b.length) cap) (w.setRow g row)) ∧
      Toks 84 (w.setRow g row) base (.slice (some ⟨g, 0, none⟩) (a.length + b.length) cap) (a ++ b) ∧ w.grownBy (w.setRow g row) (some g) := by
  obtain ⟨i84, z84, hi84, hz84, hs84, hb84, hc84⟩ := info84
  have hl : (a ++ t :: b).length = a.length + b.length + 1 := by simp; omega
  have hcl : (tcs (a ++ t :: b)).length = (a.length + b.length + 1) * 3 := by rw [tcs_length, hl]
  obtain ⟨h0, hh⟩ := h
  rcases hh with ⟨h1, _⟩ | ⟨g', cap', cur, hv, hb, hg, hn, hm, hs, ht⟩
  · cases h1
  · injection hv with e1 e2 e3
    injection e1 with e1
    injection e1 with e1
    subst e1 e3
    rw [hl] at hn ht
    have hcells : ∀ j u, (tcs (a ++ t :: b))[j]? = some u → w.cell? ⟨g, j, none⟩ = some u := by
      intro j u hj
      have hjl := (List.getElem?_eq_some_iff.1 hj).1
      rw [cell_of_row w g j cur 84 (0, 0) hg]
      rw [← ht, List.getElem?_take_of_lt (by omega)] at hj
      simpa using hj
    have hx : tcs (a ++ t :: b) = tcs a ++ (tcells t ++ tcs b) := by rw [tcs_append]; rfl
    have htl : (tcells t).length = 3 := rfl
    have hbc : ∀ j u, (tcs b)[j]? = some u → w.cell? ⟨g, (a.length + 1) * 3 + j, none⟩ = some u := by
      intro j u hj
      apply hcells
      rw [hx, List.getElem?_append_right (by rw [tcs_length]; omega), tcs_length, List.getElem?_append_right (by rw [htl]; omega), htl]
      rw [show (a.length + 1) * 3 + j - a.length * 3 - 3 = j by omega]
      exact hj
    obtain ⟨A, hA, hnews⟩ : ∃ A : Addr, (if cap = a.length + 1 then some (⟨g, 0, none⟩ : Addr) else some ⟨g, (a.length + 1) * 3, none⟩) = some A ∧ (∀ j u, (tcs b)[j]? = some u → w.cell? (A.add j) = some u) := by
      by_cases hce : cap = a.length + 1
      · refine ⟨⟨g, 0, none⟩, by simp [hce], fun j u hu => ?_⟩
        have : b = [] := List.eq_nil_of_length_eq_zero (by omega)
        subst this; simp [tcs] at hu
      · refine ⟨⟨g, (a.length + 1) * 3, none⟩, by simp [hce], fun j u hu => ?_⟩
        have ha : (⟨g, (a.length + 1) * 3, none⟩ : Addr).add j = ⟨g, (a.length + 1) * 3 + j, none⟩ := by unfold Addr.add; split <;> simp_all
        rw [ha]; exact hbc j u hu
    have hfit : a.length * i84.size + (tcs b).length ≤ cur.size := by rw [hs84, tcs_length, hs]; omega
    refine ⟨(cur.toList.take (a.length * i84.size) ++ tcs b ++ cur.toList.drop (a.length * i84.size + (tcs b).length)).toArray, fun ty => ?_, ?_, ?_⟩
    · rw [hA]
      exact run_append_room (P := Tryz.prog) w 64 ty 84 i84 Tryz.underlying64 hi84 g a.length cap cur hg A b.length (cap - (a.length + 1)) (tcs b) (by rw [tcs_length, hs84]) hnews (fun u hu => tcs_one u b hu) (by omega) hfit
    · have hta : cur.toList.take (a.length * i84.size) = tcs a := by
        rw [hs84]
        have : cur.toList.take (a.length * 3) = (cur.toList.take ((a.length + b.length + 1) * 3)).take (a.length * 3) := by rw [List.take_take, Nat.min_eq_left (by omega)]
        rw [this, ht, hx]
        exact List.take_left' (tcs_length a)
      refine ⟨by rw [tcs_length], .inr ⟨g, cap, _, by simp, hb, setRow_heap w g cur _ 84 _ hg, by simp; omega, hm, ?_, ?_⟩⟩
      · rw [hta]
        simp only [List.size_toArray, List.length_append, List.length_drop, Array.length_toList, tcs_length, hs84]
        omega
      · rw [hta, tcs_append, ← tcs_length, tcs_append]
        exact List.take_left
    · exact grown_setRow (grownBy_refl w (some g)) _

theorem size84 (w : World) : (sizeOf (Tryz.prog.elem 64)).run Tryz.prog w = .ok 3 w := by
  obtain ⟨i84, z84, hi84, hz84, hs84, hb84, hc84⟩ := info84
  have he : Tryz.prog.elem 64 = 84 := by kernel_rfl
  rw [he]
  simp [sizeOf, typeInfo, hi84, hs84]
theorem und64 : Tryz.prog.underlying 64 = some (.slice (Tryz.prog.elem 64)) := by
  have he : Tryz.prog.elem 64 = 84 := by kernel_rfl
  rw [he]; exact Tryz.underlying64
theorem slice_to (g n cap k : Nat) (hk : k ≤ cap) (w : World) : (Instr.slice 64 (.slice (some ⟨g, 0, none⟩) n cap) none (some (.int .i64 (k : Int))) none).run Tryz.prog w = .ok (.slice (some ⟨g, 0, none⟩) k cap) w := by
  have := run_slice_h (P := Tryz.prog) w 64 (some ⟨g, 0, none⟩) n cap und64 .i64 (k : Int) (by omega) (by omega)
  rw [this, size84]
  simp only [Result.andThen, sliced, Int.toNat_natCast, Nat.sub_zero, Nat.zero_mul]
  by_cases h : cap = 0
  · simp [h]
  · rw [if_neg h]; rfl
theorem slice_from (g n cap k : Nat) (hk : k ≤ n) (w : World) : (Instr.slice 64 (.slice (some ⟨g, 0, none⟩) n cap) (some (.int .i64 (k : Int))) none none).run Tryz.prog w = .ok (.slice (if cap = k then some ⟨g, 0, none⟩ else some ⟨g, k * 3, none⟩) (n - k) (cap - k)) w := by
  have := run_slice_l (P := Tryz.prog) w 64 (some ⟨g, 0, none⟩) n cap und64 .i64 (k : Int) (by omega) (by omega)
  rw [this, size84]
  simp only [Result.andThen, sliced, Int.toNat_natCast]
  have ha : (⟨g, 0, none⟩ : Addr).add (k * 3) = ⟨g, k * 3, none⟩ := by unfold Addr.add; split <;> simp_all
  by_cases h : cap = k
  · rw [if_pos h, if_pos h]
  · rw [if_neg h, if_neg h, Option.map_some, ha]

/-- An append in a region that draws its order, its run known. -/
theorem step_append_eq {P : Program} {ops : Array Oper} {o : Oper} {a : Act} {w : World} {K : Act → World → Prop} {Q : Exit → Act → World → Prop} {E : Prop}
    (hgd : o.guard = none) (s x : Operand) (t : TypeId) (hop : o.op = Op.call { callee := Callee.builtin Builtin.append, args := #[s, x], argTypes := #[t, t] })
    (v1 v2 r : Value) (w' : World) (hs : a.eval s = v1) (hx : a.eval x = v2) (hr : ∀ ty, (Builtin.append_ #[t, t] ty #[v1, v2]).run P w = .ok r w')
    (h : K (a.put o.dst r) w') : if Region.wanted o (yielded ops a.tmps) = true then Oper.wp P o a w K Q else E := by
  have hw : Region.wanted o (yielded ops a.tmps) = true := by simp [Region.wanted, hgd]
  rw [if_pos hw]
  unfold Oper.wp execOp
  simp only [hop, resolve, invoke, builtin, Sem.run_bind, Sem.run_pure, Result.andThen_ok, List.map_toArray, List.map_cons, List.map_nil, hs, hx, hr]
  exact h
end Go.Proofs.Tz
