/- Contract of the reference's lower. -/
import Derived.Test.YtcehboopgjpfcaaGreatDoorS6
import Derived.Laws.IdiomStrings
namespace Go.Proofs.Tz
open Go.RowKit Mv

/-- Block b holds just these cells; what is frozen lies behind them. -/
def ArrF (w : World) (b : Nat) (T : TypeId) (cs : List Value) : Prop := ∃ n, w.heap[b]? = some (.cells cs.toArray T (cs.length + n, cs.length + n + 1))
theorem ArrF.cell {w : World} {b : Nat} {T : TypeId} {cs : List Value} (h : ArrF w b T cs) {j : Nat} {v : Value} (hj : cs[j]? = some v) : w.cell? ⟨b, j, none⟩ = some v := by
  obtain ⟨n, h⟩ := h
  simp [World.cell?, h, hj]
theorem ArrF.free {w : World} {b : Nat} {T : TypeId} {cs : List Value} (h : ArrF w b T cs) {j : Nat} (hj : j < cs.length) : w.frozen? ⟨b, j, none⟩ = false := by
  obtain ⟨n, h⟩ := h
  simp [World.frozen?, h]; omega
theorem ArrF.set {w : World} {b : Nat} {T : TypeId} {cs : List Value} (h : ArrF w b T cs) (j : Nat) (v : Value) : ArrF (w.setCell ⟨b, j, none⟩ v) b T (cs.set j v) := by
  obtain ⟨n, h⟩ := h
  refine ⟨n, ?_⟩
  simp only [World.setCell, Array.getElem?_modify, h]
  simp
theorem bytesRow_eq (l : Bs) (cap : Nat) : bytesRow (str l) cap = (bts l ++ List.replicate (cap - l.length) (Value.int .u8 0)).toArray := by
  unfold bytesRow bts byt str
  rw [show (⟨l.toArray⟩ : ByteArray).size = l.length from str_size l]
  simp

theorem lower_take {l : Bs} {i : Nat} {c : UInt8} (h : l[i]? = some c) : (lower (l.take i) ++ l.drop i).set i (low c) = lower (l.take (i + 1)) ++ l.drop (i + 1) := by
  obtain ⟨hi, he⟩ := List.getElem?_eq_some_iff.1 h
  have hl : (lower (l.take i)).length = i := by unfold lower; rw [List.length_map, List.length_take]; omega
  rw [take_snoc h, lower_append, List.drop_eq_getElem_cons hi, List.set_append_right _ _ (by omega), hl, Nat.sub_self, List.set_cons_zero, List.append_assoc]
  rfl
theorem lower_get {l : Bs} {i : Nat} {c : UInt8} (h : l[i]? = some c) : (lower (l.take i) ++ l.drop i)[i]? = some c := by
  obtain ⟨hi, he⟩ := List.getElem?_eq_some_iff.1 h
  have hl : (lower (l.take i)).length = i := by unfold lower; rw [List.length_map, List.length_take]; omega
  rw [List.getElem?_append_right (by omega), hl, Nat.sub_self, List.getElem?_drop, Nat.add_zero]; exact h
theorem set_same {α : Type} {l : List α} {i : Nat} {x : α} (h : l[i]? = some x) : l.set i x = l := by
  apply List.ext_getElem?
  intro j
  by_cases e : i = j
  · subst e
    rw [List.getElem?_set_self (List.getElem?_eq_some_iff.1 h).1, h]
  · rw [List.getElem?_set_ne e]
theorem low_other {c : UInt8} (h : ¬ (65 ≤ c.toNat ∧ c.toNat ≤ 90)) : low c = c := by
  unfold low
  rw [if_neg]
  simp only [Bool.and_eq_true, decide_eq_true_eq]
  exact h
theorem low_great {c : UInt8} (h1 : 65 ≤ c.toNat) (h2 : c.toNat ≤ 90) : ((low c).toNat : Int) = (c.toNat : Int) + 32 := by
  unfold low
  have : (65 ≤ c && c ≤ 90) = true := by
    simp only [Bool.and_eq_true, decide_eq_true_eq]
    exact ⟨h1, h2⟩
  rw [if_pos this, UInt8.toNat_add]
  show (((c.toNat + 32) % 256 : Nat) : Int) = _
  omega

set_option maxHeartbeats 4000000 in
theorem lower43 (l : Bs) (hl : l.length ≤ 1000000) (w : World) : Calls Tryz.prog 43 #[.string (str l)] w fun e w' => e = .returned (.string (str (lower l))) ∧ Below w.heap.size w w' := by
  have hss := str_size
  have hcv := fun w => run_bytes_of_string (P := Tryz.prog) w 9 32 5 (str l) Tryz.underlying9 Tryz.underlying32 Tryz.underlying5
  obtain ⟨cap, hcap⟩ : ∃ c, c = grownCap w l.length 0 5 := ⟨_, rfl⟩
  obtain ⟨wz, hwz⟩ : ∃ x, x = (w.alloc (Obj.cells (bytesRow (str l) (grownCap w l.length 0 5)) 5 ((bytesRow (str l) (grownCap w l.length 0 5)).size, (bytesRow (str l) (grownCap w l.length 0 5)).size + 1))).drew := ⟨_, rfl⟩
  have hB : Below w.heap.size w wz := by rw [hwz]; exact ((Below.refl _ _).alloc (Nat.le_refl _) _).drew
  obtain ⟨jk, hjk⟩ : ∃ jk, jk = List.replicate (cap - l.length) (Value.int .u8 0) := ⟨_, rfl⟩
  have hA : ArrF wz w.heap.size 5 (bts l ++ jk) := by
    refine ⟨0, ?_⟩
    rw [hwz, ← hcap, bytesRow_eq, ← hjk]
    have := heap_alloc_new w (Obj.cells (bts l ++ jk).toArray 5 ((bts l ++ jk).toArray.size, (bts l ++ jk).toArray.size + 1))
    show (w.alloc _).heap[w.heap.size]? = _
    simpa using this
  have HA := Lib.hid hA
  have HB := Lib.hid hB
  clear hA hB hjk hcap
  go_enter Tryz.func43, Tryz.ntmps43
  go_wp2_with fail
  rw [← hwz]
  clear hwz hcv
  go_loopw [4] (fun x wr => ∃ i : Nat, x = .int .i64 (i : Int) ∧ i ≤ l.length ∧ Hid (ArrF wr w.heap.size 5 (bts (lower (l.take i) ++ l.drop i) ++ jk)) ∧ Hid (Below w.heap.size w wr)) (fun x _ => l.length - (intOf x).toNat)
  case atStart => exact ⟨0, rfl, Nat.zero_le _, by simpa [lower] using HA, HB⟩
  case round =>
    obtain ⟨i, rfl, hi, H1, H2⟩ := hrel
    by_cases hil : i < l.length
    · obtain ⟨c, hc⟩ : ∃ c, l[i]? = some c := ⟨_, List.getElem?_eq_getElem hil⟩
      have hlen : (lower (l.take i) ++ l.drop i).length = l.length := by unfold lower; rw [List.length_append, List.length_map, List.length_take, List.length_drop]; omega
      have hget := bts_get (lower_get hc)
      have hcl : wr.cell? ⟨w.heap.size, i, none⟩ = some (.int .u8 (c.toNat : Int)) := H1.out.cell (by rw [List.getElem?_append_left (by rw [bts_length, hlen]; exact hil)]; exact hget)
      have hfz : wr.frozen? ⟨w.heap.size, i, none⟩ = false := H1.out.free (by rw [List.length_append, bts_length, hlen]; omega)
      have hset : ∀ v : UInt8, (bts (lower (l.take i) ++ l.drop i) ++ jk).set i (byt v) = bts ((lower (l.take i) ++ l.drop i).set i v) ++ jk := fun v => by
        rw [List.set_append_left _ _ (by rw [bts_length, hlen]; exact hil)]
        unfold bts
        rw [List.map_set]
      have HS := Lib.hid hset
      have HC := Lib.hid hc
      clear hget hset hc hlen
      by_cases h1 : 65 ≤ c.toNat
      · have b1 : decide ((c.toNat : Int) ≥ 65) = true := by simp; omega
        by_cases h2 : c.toNat ≤ 90
        · have b2 : decide ((c.toNat : Int) ≤ 90) = true := by simp; omega
          have hlow := low_great h1 h2
          have hv : Hid (Value.int IntKind.u8 ((c.toNat : Int) + 32) = byt (low c)) := Lib.hid (by rw [byt, hlow])
          have hm : ((c.toNat : Int) + 32) % 256 = (c.toNat : Int) + 32 := by omega
          have HN : Hid (ArrF (wr.setCell ⟨w.heap.size, i, none⟩ (byt (low c))) w.heap.size 5 (bts (lower (l.take (i + 1)) ++ l.drop (i + 1)) ++ jk)) := Lib.hid (by
            have := H1.out.set i (byt (low c))
            rw [HS.out, lower_take HC.out] at this
            exact this)
          have HNB : Hid (Below w.heap.size w (wr.setCell ⟨w.heap.size, i, none⟩ (byt (low c)))) := Lib.hid (H2.out.setCell (Nat.le_refl _) _)
          clear h1 h2 hlow
          go_wp2_with fail
          go_roundw
          case rel => exact ⟨i + 1, by go_num, by omega, by rw [hv.out]; exact HN, by rw [hv.out]; exact HNB⟩
          case measure => simp [intOf]; omega
        · have b2 : decide ((c.toNat : Int) ≤ 90) = false := by simp; omega
          have HN : Hid (ArrF wr w.heap.size 5 (bts (lower (l.take (i + 1)) ++ l.drop (i + 1)) ++ jk)) := Lib.hid (by
            have h3 := lower_take HC.out
            rw [low_other (fun h => h2 h.2)] at h3
            rw [← h3, set_same (lower_get HC.out)]
            exact H1.out)
          clear h1 h2
          go_wp2_with fail
          go_roundw
          case rel => exact ⟨i + 1, by go_num, by omega, HN, H2⟩
          case measure => simp [intOf]; omega
      · have b1 : decide ((c.toNat : Int) ≥ 65) = false := by simp; omega
        have HN : Hid (ArrF wr w.heap.size 5 (bts (lower (l.take (i + 1)) ++ l.drop (i + 1)) ++ jk)) := Lib.hid (by
          have h3 := lower_take HC.out
          rw [low_other (fun h => h1 h.1)] at h3
          rw [← h3, set_same (lower_get HC.out)]
          exact H1.out)
        clear h1
        go_wp2_with fail
        go_roundw
        case rel => exact ⟨i + 1, by go_num, by omega, HN, H2⟩
        case measure => simp [intOf]; omega
    · have hie : i = l.length := by omega
      subst hie
      have hcs : ∀ k x, (lower l)[k]? = some x → wr.cell? ⟨w.heap.size, 0 + k, none⟩ = some (byt x) := fun k x hk => by
        have h1 := H1.out
        rw [List.take_length, List.drop_length, List.append_nil] at h1
        refine h1.cell ?_
        rw [Nat.zero_add, List.getElem?_append_left (by rw [bts_length]; exact (List.getElem?_eq_some_iff.1 hk).1)]
        exact bts_get hk
      have hcv := conv_str (lower l) w.heap.size 0 (grownCap w l.length 0 5) wr hcs
      have hll : (lower l).length = l.length := by simp [lower]
      rw [hll] at hcv
      clear hcs hll
      go_wp2_with fail
      go_ret
      exact ⟨rfl, H2.out⟩
end Go.Proofs.Tz
