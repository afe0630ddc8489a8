/- Contract of the statement's joined, and how long what it joins is. -/
import Derived.Test.YtcehboopgjpfcaaGreatDoorS13
import Derived.Test.YtcehboopgjpfcaaGreatDoorV4
namespace Go.Proofs.Mv
theorem trimM_sub (l : List Tok) : List.Sublist (trimM l) l := by
  obtain ⟨n, hn⟩ : ∃ n, l.length = n := ⟨_, rfl⟩
  induction n using Nat.strongRecOn generalizing l with
  | _ n ih =>
    by_cases hl : l.length ≤ 1
    · rw [trimM_short hl]; exact List.Sublist.refl _
    · rw [trimM, if_neg hl]
      split
      · exact (ih (n - 1) (by omega) l.dropLast (by simp; omega)).trans (List.dropLast_sublist l)
      · split
        · exact List.Sublist.refl _
        · rename_i k hk
          have hkl := lastHy_lt hk
          split
          · exact List.Sublist.refl _
          · have h := (ih k (by omega) (l.take k) (by rw [List.length_take]; omega)).append (List.Sublist.refl (l.drop k))
            rwa [List.take_append_drop] at h
theorem joinT_cons (t : Tok) (r : List Tok) : joinT (t :: r) = t.p ++ t.v ++ joinT r := rfl
theorem joinT_append (a b : List Tok) : joinT (a ++ b) = joinT a ++ joinT b := by simp [joinT]
theorem joinT_sub {a b : List Tok} (h : List.Sublist a b) : (joinT a).length ≤ (joinT b).length := by
  induction h with
  | slnil => exact Nat.le_refl _
  | cons t _ ih => rw [joinT_cons, List.length_append]; omega
  | cons_cons t _ ih => rw [joinT_cons, joinT_cons, List.length_append, List.length_append (bs := joinT _)]; omega
theorem tokS_join : ∀ (r pre cur : Bs), (joinT (tokS pre cur r)).length ≤ pre.length + cur.length + 20 + 22 * r.length
  | [], pre, cur => by
    have := nv_len cur false
    rw [tokS, joinT_cons, List.length_append, List.length_append]
    show pre.length + (nv cur false).length + 0 ≤ _
    simp; omega
  | c :: r, pre, cur => by
    rw [tokS]
    split
    · have h1 := nv_len cur false
      have h2 := tokS_join r [c] []
      rw [joinT_cons, List.length_append, List.length_append]
      simp only [List.length_cons, List.length_nil] at h2 ⊢
      omega
    · split
      · have h1 := nv_len cur (isDig c)
        have h2 := tokS_join r [45] [c]
        rw [joinT_cons, List.length_append, List.length_append]
        simp only [List.length_cons, List.length_nil] at h2 ⊢
        omega
      · have h2 := tokS_join r pre (cur ++ [c])
        simp only [List.length_cons, List.length_append, List.length_nil] at h2 ⊢
        omega
theorem mv_join (s : Bs) : (joinT (mvTokens s)).length ≤ 20 + 22 * s.length := by
  rw [mv_spec, specTokens]
  have h1 := joinT_sub (trimM_sub (tokS [] [] (lower s)))
  have h2 := tokS_join (lower s) [] []
  have h3 : (lower s).length = s.length := by simp [lower]
  simp only [List.length_nil] at h2
  omega
/-- Nothing is joined where a token is empty. -/
def full (l : List Tok) : Bool := l.all fun t => decide (t.v ≠ [])
def joinF (l : List Tok) : Bs := if full l = true then joinT l else []
end Go.Proofs.Mv
namespace Go.Proofs.Tz
open Go.RowKit Mv

set_option maxHeartbeats 4000000 in
set_option maxRecDepth 100000 in
theorem joined35 (v : Value) (l : List Tok) (base : Nat) (w : World) (hT : Toks 40 w base v l) (hl0 : l ≠ []) (hj : (joinT l).length ≤ 1000000) (hl : l.length ≤ 1000000) :
    Calls Tryz.prog 35 #[v] w fun e w' => e = .returned (.tuple #[.string (str (joinF l)), .bool (full l)]) ∧ Below w.heap.size w w' := by
  have hss := str_size
  have htl := str_toList
  obtain ⟨ax, cx, rfl⟩ := toks_form hT
  have hlp : 0 < l.length := List.length_pos_iff.2 hl0
  have HT := Lib.hid hT
  obtain ⟨J, hJ⟩ : ∃ x, x = joinF l := ⟨_, rfl⟩
  obtain ⟨F, hF⟩ : ∃ x, x = full l := ⟨_, rfl⟩
  rw [← hJ, ← hF]
  have HJ : Hid (full l = true → F = true ∧ J = joinT l) := Lib.hid (fun h => ⟨by rw [hF, h], by rw [hJ, joinF, if_pos h]⟩)
  have HJ0 : Hid (full l = false → F = false ∧ J = []) := Lib.hid (fun h => ⟨by rw [hF, h], by rw [hJ, joinF, if_neg (by rw [h]; decide)]⟩)
  clear hT hl0 hJ hF
  go_enter Tryz.func35, Tryz.ntmps35
  go_wp2_with fail
  obtain ⟨wo, rfl⟩ : ∃ wo : World, wo = w := ⟨_, rfl⟩
  go_loopw [4, 6, 9] (fun s t x wr => ∃ (tv : Value) (k : Nat), tv = t ∧ x = .int .i64 (k : Int) ∧ k ≤ l.length ∧ s = .string (str (joinT (l.take k))) ∧ Hid (∀ t ∈ l.take k, t.v ≠ []) ∧ Hid (Below wo.heap.size wo wr)) (fun _ _ x _ => l.length - (intOf x).toNat)
  case atStart => exact ⟨_, 0, rfl, rfl, Nat.zero_le _, rfl, Lib.hid (by simp), Lib.hid (Below.refl _ _)⟩
  case round =>
    obtain ⟨tv, k, rfl, rfl, hk, rfl, HF, HB⟩ := hrel
    by_cases hkl : k < l.length
    · obtain ⟨t, ht⟩ : ∃ t, l[k]? = some t := ⟨_, List.getElem?_eq_getElem hkl⟩
      obtain ⟨g, cap, hv, _, _⟩ := World.ownsRow.form HT.out (by omega)
      injection hv with z1 _ z3
      subst z1 z3
      have hal : ∀ o : Obj, Below wr.heap.size wr (wr.alloc o) := fun o => (Below.refl _ _).alloc (Nat.le_refl _) _
      have hta := tok_at (HT.out.below HB.out) ht
      have htb := fun o => tok_at ((HT.out.below HB.out).below (hal o)) ht
      obtain ⟨a0, a1, a2⟩ := hta
      have b0 := fun o => (htb o).1
      have b1 := fun o => (htb o).2.1
      have b2 := fun o => (htb o).2.2
      have hjk : joinT (l.take (k + 1)) = joinT (l.take k) ++ (t.p ++ t.v) := by rw [take_snoc ht, joinT_append, joinT_cons]; simp [joinT]
      have hjl : (joinT (l.take (k + 1))).length ≤ 1000000 := Nat.le_trans (joinT_sub (List.take_sublist _ _)) hj
      rw [hjk, List.length_append, List.length_append] at hjl
      obtain ⟨sJ, hsJ⟩ : ∃ x, x = joinT (l.take k) := ⟨_, rfl⟩
      rw [← hsJ] at hjk hjl ⊢
      have HJK := Lib.hid hjk
      have HT2 := Lib.hid ht
      have HBA := Lib.hid fun o => HB.out.trans ((hal o).mono HB.out.size)
      clear hal htb hjk hsJ ht
      by_cases he : t.v = []
      · have m1 : t.v.isEmpty = true := by rw [he]; rfl
        have hf : full l = false := by
          cases h : full l
          · rfl
          · have := List.all_eq_true.1 h t (List.mem_of_getElem? HT2.out)
            simp [he] at this
        obtain ⟨rfl, rfl⟩ := HJ0.out hf
        clear he hf
        go_wp2_with fail
        go_ret2
        exact ⟨rfl, HBA.out _⟩
      · have m1 : t.v.isEmpty = false := by simpa using he
        have HN := Lib.hid (take_all' HF.out HT2.out he)
        clear he
        go_wp2_with fail
        go_roundw
        case rel => exact ⟨_, k + 1, rfl, by go_num, by omega, by rw [HJK.out, str_append, str_append], HN, Lib.hid (HBA.out _)⟩
        case measure => simp [intOf]; omega
    · have hke : k = l.length := by omega
      subst hke
      rw [List.take_length] at HF ⊢
      have hf : full l = true := List.all_eq_true.2 fun t ht => by simpa using HF.out t ht
      obtain ⟨rfl, rfl⟩ := HJ.out hf
      clear hf
      go_wp2_with fail
      go_ret2
      exact ⟨rfl, HB.out⟩
end Go.Proofs.Tz
