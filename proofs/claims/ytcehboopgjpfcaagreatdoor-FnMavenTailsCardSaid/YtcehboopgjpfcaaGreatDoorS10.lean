/- Contract of the reference's mavenTrimmed. -/
import Derived.Test.YtcehboopgjpfcaaGreatDoorS9
import Derived.Laws.OwnMore
namespace Go.Proofs.Mv
theorem trimL_null {l : List Tok} {n : Nat} {t : Tok} (hn : 1 ≤ n) (ht : l[n]? = some t) (h0 : isNull t = true) : trimM (l.take (n + 1)) = trimM (l.take n) := by
  have hl := (List.getElem?_eq_some_iff.1 ht).1
  rw [Go.Proofs.Tz.take_snoc ht, trimM_null (by intro e; have := congrArg List.length e; rw [List.length_take, List.length_nil] at this; omega) h0]
theorem take_last {l : List Tok} {n : Nat} {t : Tok} (ht : l[n]? = some t) (d : Tok) : (l.take (n + 1)).getLastD d = t := by
  rw [Go.Proofs.Tz.take_snoc ht]; simp
theorem mem_from {l : List Tok} {j n : Nat} {x : Tok} (h : x ∈ (l.take (n + 1)).drop j) : ∃ i, j ≤ i ∧ i ≤ n ∧ l[i]? = some x := by
  obtain ⟨k, hk⟩ := List.mem_iff_getElem?.1 h
  rw [List.getElem?_drop, List.getElem?_take] at hk
  split at hk
  · exact ⟨j + k, by omega, by omega, hk⟩
  · cases hk
theorem trimL_keep {l : List Tok} {n : Nat} {t : Tok} (ht : l[n]? = some t) (h0 : n = 0 ∨ isNull t = false) (hp : ∀ i x, 0 < i → i ≤ n → l[i]? = some x → x.p ≠ [45]) : trimM (l.take (n + 1)) = l.take (n + 1) := by
  rcases h0 with rfl | h0
  · exact trimM_short (by rw [List.length_take]; omega)
  · cases l with
    | nil => simp at ht
    | cons x r =>
      have hb : ∀ y ∈ r.take n, y.p ≠ [45] := fun y hy => by
        obtain ⟨k, hk⟩ := List.mem_iff_getElem?.1 hy
        rw [List.getElem?_take] at hk
        split at hk
        · exact hp (k + 1) y (by omega) (by omega) (by simpa using hk)
        · cases hk
      have hn : isNull ((x :: r.take n).getLastD ⟨[], [], false⟩) = false := by
        have := take_last ht ⟨[], [], false⟩
        rw [List.take_succ_cons] at this
        rw [this]; exact h0
      rw [List.take_succ_cons]
      by_cases hx : x.p = [45]
      · have := trimM_cut (a := []) hn hx hb
        rw [List.nil_append] at this
        rw [this, trimM_short (by simp)]; rfl
      · exact trimM_none hn (fun y hy => by
          rcases List.mem_cons.1 hy with rfl | hy
          · exact hx
          · exact hb y hy)
theorem trimL_cut {l : List Tok} {n j : Nat} {t u : Tok} (ht : l[n]? = some t) (h0 : isNull t = false) (hj : j ≤ n) (hu : l[j]? = some u) (hup : u.p = [45]) (hp : ∀ i x, j < i → i ≤ n → l[i]? = some x → x.p ≠ [45]) :
    trimM (l.take (n + 1)) = trimM (l.take j) ++ (l.take (n + 1)).drop j := by
  have e1 : (l.take (n + 1)).drop j = u :: (l.take (n + 1)).drop (j + 1) := by
    have h1 : (l.take (n + 1))[j]? = some u := by rw [List.getElem?_take, if_pos (by omega)]; exact hu
    obtain ⟨h2, h3⟩ := List.getElem?_eq_some_iff.1 h1
    rw [List.drop_eq_getElem_cons h2, h3]
  have e2 : l.take (n + 1) = l.take j ++ (u :: (l.take (n + 1)).drop (j + 1)) := by
    have := (List.take_append_drop j (l.take (n + 1))).symm
    rwa [List.take_take, Nat.min_eq_left (by omega), e1] at this
  have hn : isNull ((u :: (l.take (n + 1)).drop (j + 1)).getLastD ⟨[], [], false⟩) = false := by
    have h3 := take_last ht ⟨[], [], false⟩
    rw [e2] at h3
    rw [List.getLastD_eq_getLast?, List.getLast?_append] at h3
    rw [List.getLastD_eq_getLast?]
    simp only [List.getLast?_cons, Option.some_or, Option.getD_some] at h3 ⊢
    rw [h3]; exact h0
  have h4 := trimM_cut (a := l.take j) hn hup (fun x hx => by
    obtain ⟨i, h1, h2, h3⟩ := mem_from hx
    exact hp i x (by omega) h2 h3)
  rw [← e2] at h4
  rw [h4, e1]
end Go.Proofs.Mv
namespace Go.Proofs.Tz
open Go.RowKit Mv

def lenV : Value → Nat
  | .slice _ n _ => n
  | _ => 0
theorem wpList_append_nil {P : Program} (w : World) {ops : Array Oper} {rest : List Oper} {o : Oper} {a : Act} {Q : Exit → Act → World → Prop} (hgd : o.guard = none) (s x : Operand) (t : TypeId)
    (ho : o.op = .call { callee := .builtin .append, args := #[s, x], argTypes := #[t, t] }) (base : Nat) (e : TypeId) (i : TypeInfo) (size : Nat) (ht : P.underlying t = some (.slice e)) (hi : P.info? e = some i)
    (v : Value) (n : Nat) (xs : List Value) (hs : a.eval s = v) (hown : w.ownsRow base e size v n xs) (hx : a.eval x = .slice none 0 0) (h : wpList P ops Q rest (a.put o.dst v) w) : wpList P ops Q (o :: rest) a w :=
  wpList_plain hgd fun _ hK => by
    have hr := run_append_owned_none (P := P) w base t o.type e i size ht hi v n xs hown
    unfold Oper.wp execOp
    simp only [ho, resolve, invoke, builtin, Sem.run_bind, Sem.run_pure, Result.andThen_ok, List.map_toArray, List.map_cons, List.map_nil, hs, hx, hr]
    exact hK _ _ h
/-- A token of a row. -/
theorem tok_at {w : World} {base g N cap : Nat} {l : List Tok} (h : Toks 40 w base (.slice (some ⟨g, 0, none⟩) N cap) l) {j : Nat} {t : Tok} (hj : l[j]? = some t) :
    w.cell? ⟨g, j * 3, none⟩ = some (.string (str t.p)) ∧ w.cell? ⟨g, j * 3 + 1, none⟩ = some (.string (str t.v)) ∧ w.cell? ⟨g, j * 3 + 2, none⟩ = some (.bool t.n) := by
  obtain ⟨hl, he⟩ := List.getElem?_eq_some_iff.1 hj
  have hsp : l = l.take j ++ t :: l.drop (j + 1) := by
    have h1 : l.drop j = t :: l.drop (j + 1) := by rw [List.drop_eq_getElem_cons hl, he]
    rw [← h1, List.take_append_drop]
  rw [hsp] at h
  obtain ⟨g', cap', hv, _, _, c0, c1, c2⟩ := h.read
  rw [List.length_take, Nat.min_eq_left (by omega)] at c0 c1 c2
  injection hv with e1
  injection e1 with e1
  injection e1 with e1
  subst e1
  exact ⟨c0, c1, c2⟩
theorem tcs_get_take {l : List Tok} {k i : Nat} {u : Value} (h : (tcs (l.take k))[i]? = some u) : (tcs l)[i]? = some u := by
  have e : tcs l = tcs (l.take k) ++ tcs (l.drop k) := by rw [← tcs_append, List.take_append_drop]
  rw [e, List.getElem?_append_left (List.getElem?_eq_some_iff.1 h).1, h]
theorem tcs_get_drop {l : List Tok} {k j i : Nat} {u : Value} (_hj : j ≤ l.length) (h : (tcs ((l.take k).drop j))[i]? = some u) : (tcs l)[j * 3 + i]? = some u := by
  have hjk : j ≤ (l.take k).length ∨ (l.take k).drop j = [] := by
    rcases Nat.lt_or_ge (l.take k).length j with h | h
    · exact .inr (List.drop_eq_nil_of_le (by omega))
    · exact .inl h
  rcases hjk with hjk | hjk
  · have e : tcs (l.take k) = tcs ((l.take k).take j) ++ tcs ((l.take k).drop j) := by rw [← tcs_append, List.take_append_drop]
    refine tcs_get_take (k := k) ?_
    rw [e, List.getElem?_append_right (by rw [tcs_length, List.length_take]; omega), tcs_length, List.length_take, Nat.min_eq_left hjk, show j * 3 + i - j * 3 = i by omega]; exact h
  · rw [hjk] at h; simp [tcs] at h

theorem World.ownsRow.form_nil {w : World} {base : Nat} {e : TypeId} {size : Nat} {v : Value} {n : Nat} {xs : List Value} (_h : w.ownsRow base e size v n xs) (hn : n = 0) : n * size = 0 := by rw [hn, Nat.zero_mul]
theorem addr_add (g o i : Nat) : (⟨g, o, none⟩ : Addr).add i = ⟨g, o + i, none⟩ := by
  unfold Addr.add
  split
  · next h => subst h; rfl
  · rfl
/-- A cell that is there is as it was where only a nil row grew. -/
theorem cell_keepN {w w' : World} (h : w.grownBy w' none) {a : Addr} {v : Value} (hc : w.cell? a = some v) : w'.cell? a = some v :=
  (World.cell?_of_block (h.block a.block (World.block_lt_of_cell? w _ hc) (by simp))).trans hc

set_option maxHeartbeats 16000000 in
set_option maxRecDepth 100000 in
theorem trimmed41 (v : Value) (l : List Tok) (hl0 : l ≠ []) (hl : l.length ≤ 1000000) (base : Nat) (w : World) (hT : Toks 40 w base v l) :
    Calls Tryz.prog 41 #[v] w fun e w' => ∃ v', e = .returned v' ∧ Toks 40 w' w.heap.size v' (trimM l) ∧ Below w.heap.size w w' := by
  obtain ⟨i40, z40, hi40, hz40, hs40, hb40, hc40⟩ := info40
  have htl := str_toList
  have hlp : 0 < l.length := List.length_pos_iff.2 hl0
  obtain ⟨g, cap, hv, hbg, _⟩ := World.ownsRow.form hT hlp
  subst hv
  have hcap : l.length ≤ cap := by
    rcases hT.2 with ⟨h, _⟩ | ⟨g', cap', cur, h, _, _, h4, _⟩
    · simp at h
    · injection h with _ _ h; omega
  obtain ⟨N, hN⟩ : ∃ N, l.length = N + 1 := ⟨l.length - 1, by omega⟩
  have HT := Lib.hid hT
  have htok : ∀ j, j ≤ N → ∃ t, l[j]? = some t := fun j hj => ⟨_, List.getElem?_eq_getElem (by omega)⟩
  have HTOK := Lib.hid htok
  rw [hN] at hcap ⊢
  clear hT hl0 hlp htok
  go_enter Tryz.func41, Tryz.ntmps41
  go_wp2_with fail
  obtain ⟨wo, rfl⟩ : ∃ wo : World, wo = w := ⟨_, rfl⟩
  go_loopw [0, 3, 4] (fun z b k wr => ∃ (kv bv : Value) (n : Nat) (bl : List Tok), kv = k ∧ bv = b ∧ z = .slice (some ⟨g, 0, none⟩) (n + 1) cap ∧ n ≤ N ∧ bl.length ≤ N - n ∧ ((bl = [] ∧ bv = .slice none 0 0) ∨ 0 < bl.length) ∧ Hid (trimM l = trimM (l.take (n + 1)) ++ bl) ∧ Hid (wr.ownsRow wo.heap.size 40 3 bv bl.length (tcs bl)) ∧ Hid (Below wo.heap.size wo wr)) (fun z _ _ _ => lenV z)
  case atStart => exact ⟨_, _, N, [], rfl, rfl, rfl, Nat.le_refl _, Nat.zero_le _, .inl ⟨rfl, rfl⟩, Lib.hid (by rw [List.append_nil, ← hN, List.take_length]), Lib.hid (World.ownsRow_nil _ _ _ _), Lib.hid (Below.refl _ _)⟩
  case round =>
    obtain ⟨kv, bv, n0, bl, rfl, rfl, rfl, hn0, hbl, HD, HQ, HR, HB⟩ := hrel
    go_wp2_with fail
    go_loop [0] (fun z => ∃ n : Nat, z = .slice (some ⟨g, 0, none⟩) (n + 1) cap ∧ n ≤ n0 ∧ Hid (trimM l = trimM (l.take (n + 1)) ++ bl)) (fun z => lenV z)
    case atStart => exact ⟨n0, rfl, Nat.le_refl _, HQ⟩
    case round =>
      obtain ⟨n, rfl, hn, HQ⟩ := hrel
      obtain ⟨t, ht⟩ := HTOK.out n (by omega)
      obtain ⟨_, c1, _⟩ := tok_at (HT.out.below HB.out) ht
      have HTT := Lib.hid ht
      clear ht
      by_cases hn1 : 1 ≤ n
      · obtain ⟨m, rfl⟩ : ∃ m, n = m + 1 := ⟨n - 1, by omega⟩
        by_cases h48 : t.v = [48]
        · have m1 : (t.v == [48]) = true := by simp [h48]
          have HQ2 := Lib.hid (trimL_null hn1 HTT.out (by simp [isNull, h48]))
          clear h48
          go_wp2_with fail
          go_round
          case rel => exact ⟨m, rfl, by omega, Lib.hid (by rw [← HQ2.out]; exact HQ.out)⟩
          case measure => simp [lenV]
        · have m1 : (t.v == [48]) = false := by simpa using h48
          by_cases he : t.v = []
          · have m2 : t.v.isEmpty = true := by rw [he]; rfl
            have HQ2 := Lib.hid (trimL_null hn1 HTT.out (by simp [isNull, he]))
            clear he h48
            go_wp2_with fail
            go_round
            case rel => exact ⟨m, rfl, by omega, Lib.hid (by rw [← HQ2.out]; exact HQ.out)⟩
            case measure => simp [lenV]
          · have m2 : t.v.isEmpty = false := by simpa using he
            have h0 : m + 1 = 0 ∨ isNull t = false := .inr (by simp [isNull, h48, he])
            clear he h48
            obtain ⟨n, hnm⟩ : ∃ n, n = m + 1 := ⟨_, rfl⟩
            rw [← hnm] at HTT HQ h0 hn hn1 c1 ⊢
            have hpos : 0 < n := by omega
            clear hnm
            have hk0 : n = 0 ∨ isNull t = false := h0
            have HNU := Lib.hid hk0
            clear hk0 h0
            go_wp2_with fail
            go_loop [4] (fun k => ∃ j : Nat, k = .int .i64 (j : Int) ∧ j ≤ n ∧ Hid (∀ i x, j < i → i ≤ n → l[i]? = some x → x.p ≠ [45])) (fun k => (intOf k).toNat)
            case atStart => exact ⟨n, by go_num, Nat.le_refl _, Lib.hid (fun i x h1 h2 _ => absurd h1 (by omega))⟩
            case round =>
              obtain ⟨j, rfl, hj, HP⟩ := hrel
              obtain ⟨u, hu⟩ := HTOK.out j (by omega)
              obtain ⟨d0, _, _⟩ := tok_at (HT.out.below HB.out) hu
              have HU := Lib.hid hu
              clear hu
              by_cases hj0 : 0 < j
              · by_cases hp : u.p = [45]
                · have m3 : (u.p == [45]) = true := by simp [hp]
                  have m4 : (u.p != [45]) = false := by simp [hp]
                  have hnul : isNull t = false := by
                    rcases HNU.out with h | h
                    · omega
                    · exact h
                  have HQ2 := Lib.hid (trimL_cut HTT.out hnul hj HU.out hp HP.out)
                  clear hp hnul
                  obtain ⟨q, rfl⟩ : ∃ q, j = q + 1 := ⟨j - 1, by omega⟩
                  have hnews : ∀ i x, (tcs ((l.take (n + 1)).drop (q + 1)))[i]? = some x → wr.cell? ((⟨g, (q + 1) * 3, none⟩ : Addr).add i) = some x := fun i x hi => by
                    have h1 := tcs_get_drop (by omega) hi
                    have h2 := (HT.out.below HB.out).cells (g := g) rfl _ _ h1
                    rw [addr_add, Nat.zero_add] at h2
                    rw [addr_add]; exact h2
                  have HNE := Lib.hid hnews
                  have hone : ∀ x ∈ tcs ((l.take (n + 1)).drop (q + 1)), x.oneCell' = true := fun x hx => tcs_one x _ hx
                  have HONE := Lib.hid hone
                  have hln : (tcs ((l.take (n + 1)).drop (q + 1))).length = (n - q) * 3 := by rw [tcs_length, List.length_drop, List.length_take, Nat.min_eq_left (by omega), Nat.add_sub_add_right]
                  have HLN := Lib.hid hln
                  clear hnews hone hln
                  rcases HD with ⟨hbe, hbv⟩ | hb1
                  · subst hbe
                    subst hbv
                    go_wp2_with (first | (at_builtin; refine wpList_append_nil _ rfl (.tmp 57) (.tmp 58) 28 rfl wo.heap.size 40 i40 3 Tryz.underlying28 hi40 (.slice (some ⟨g1, 0, none⟩) (n - q) cap1) (n - q) (tcs ((l.take (n + 1)).drop (q + 1))) rfl hown1 rfl ?_) | (at_builtin; refine wpList_append_lies _ rfl (.const (Value.slice none 0 0)) (.tmp 56) 28 rfl wo.heap.size 40 i40 z40 3 40 Tryz.underlying28 hi40 hz40 hs40 hb40 hc40 (by decide) (.slice none 0 0) 0 [] rfl (World.ownsRow_nil _ _ _ _) ⟨g, (q + 1) * 3, none⟩ (n - q) (cap - (q + 1)) (tcs ((l.take (n + 1)).drop (q + 1))) rfl HLN.out HNE.out HONE.out (by omega) (by unfold maxLen; omega) (by omega) HB.out.size _ rfl ?_; intro g1 cap1 w2 hown1 hgrow1 hat1 hlt1; simp only [Nat.zero_add, List.nil_append] at hown1 ⊢))
                    have hB2 := HB.out.grown hgrow1 HB.out.size (fun j hj => by cases hj)
                    have hR9 : Hid (w2.ownsRow wo.heap.size 40 3 (.slice (some ⟨g1, 0, none⟩) (n - q) cap1) (((l.take (n + 1)).drop (q + 1)) ++ []).length (tcs (((l.take (n + 1)).drop (q + 1)) ++ []))) := Lib.hid (by
                      rw [List.append_nil, List.length_drop, List.length_take, Nat.min_eq_left (by omega), Nat.add_sub_add_right]; exact hown1)
                    have HB9 := Lib.hid hB2
                    have HQ9 : Hid (trimM l = trimM (l.take (q + 1)) ++ (((l.take (n + 1)).drop (q + 1)) ++ [])) := Lib.hid (by rw [HQ.out, HQ2.out, List.append_assoc])
                    have hl9 : (((l.take (n + 1)).drop (q + 1)) ++ []).length = n - q + 0 := by rw [List.length_append, List.length_drop, List.length_take, Nat.min_eq_left (by omega), Nat.add_sub_add_right]; rfl
                    go_roundw
                    case rel => exact ⟨_, _, q, ((l.take (n + 1)).drop (q + 1)) ++ [], rfl, rfl, rfl, by omega, by omega, .inr (by omega), HQ9, hR9, HB9⟩
                    case measure => simp [lenV]; omega
                  · obtain ⟨gb, cb, hbv, _, _⟩ := World.ownsRow.form HR.out hb1
                    subst hbv
                    go_wp2_with (first | (at_builtin; refine wpList_append_lies _ rfl (.tmp 57) (.tmp 58) 28 rfl wo.heap.size 40 i40 z40 3 40 Tryz.underlying28 hi40 hz40 hs40 hb40 hc40 (by decide) (.slice (some ⟨g1, 0, none⟩) (n - q) cap1) (n - q) (tcs ((l.take (n + 1)).drop (q + 1))) rfl hown1 ⟨gb, 0, none⟩ bl.length cb (tcs bl) rfl (tcs_length bl) (fun i x hi => cell_keepN hgrow1 ((HR.out.cells (g := gb) rfl) i x hi)) (fun x hx => tcs_one x bl hx) (by omega) (by unfold maxLen; omega) (by omega) (by have := HB.out.size; have := hgrow1.size; omega) _ rfl ?_; intro g2 cap2 w3 hown2 hgrow2 hat2 hlt2) | (at_builtin; refine wpList_append_lies _ rfl (.const (Value.slice none 0 0)) (.tmp 56) 28 rfl wo.heap.size 40 i40 z40 3 40 Tryz.underlying28 hi40 hz40 hs40 hb40 hc40 (by decide) (.slice none 0 0) 0 [] rfl (World.ownsRow_nil _ _ _ _) ⟨g, (q + 1) * 3, none⟩ (n - q) (cap - (q + 1)) (tcs ((l.take (n + 1)).drop (q + 1))) rfl HLN.out HNE.out HONE.out (by omega) (by unfold maxLen; omega) (by omega) HB.out.size _ rfl ?_; intro g1 cap1 w2 hown1 hgrow1 hat1 hlt1; simp only [Nat.zero_add, List.nil_append] at hown1 ⊢))
                    have hB2 := HB.out.grown hgrow1 HB.out.size (fun j hj => by cases hj)
                    have hR9 : Hid (w3.ownsRow wo.heap.size 40 3 (.slice (some ⟨g2, 0, none⟩) (n - q + bl.length) cap2) (((l.take (n + 1)).drop (q + 1)) ++ bl).length (tcs (((l.take (n + 1)).drop (q + 1)) ++ bl))) := Lib.hid (by
                      rw [tcs_append, List.length_append, List.length_drop, List.length_take, Nat.min_eq_left (by omega), Nat.add_sub_add_right]; exact hown2)
                    have HB9 := Lib.hid (hB2.grown hgrow2 hB2.size (fun j hj => (hown1.lt j hj).1))
                    have HQ9 : Hid (trimM l = trimM (l.take (q + 1)) ++ (((l.take (n + 1)).drop (q + 1)) ++ bl)) := Lib.hid (by rw [HQ.out, HQ2.out, List.append_assoc])
                    have hl9 : (((l.take (n + 1)).drop (q + 1)) ++ bl).length = n - q + bl.length := by rw [List.length_append, List.length_drop, List.length_take, Nat.min_eq_left (by omega), Nat.add_sub_add_right]
                    go_roundw
                    case rel => exact ⟨_, _, q, ((l.take (n + 1)).drop (q + 1)) ++ bl, rfl, rfl, rfl, by omega, by omega, .inr (by omega), HQ9, hR9, HB9⟩
                    case measure => simp [lenV]; omega
                · have m3 : (u.p == [45]) = false := by simpa using hp
                  have m4 : (u.p != [45]) = true := by simpa using hp
                  have HP2 : Hid (∀ i x, j - 1 < i → i ≤ n → l[i]? = some x → x.p ≠ [45]) := Lib.hid (fun i x h1 h2 h3 => by
                    by_cases e : i = j
                    · subst e
                      rw [HU.out] at h3
                      injection h3 with h3
                      rw [← h3]; exact hp
                    · exact HP.out i x (by omega) h2 h3)
                  clear hp
                  go_wp2_with fail
                  go_round
                  case rel => exact ⟨j - 1, by go_num, by omega, HP2⟩
                  case measure => simp [intOf]; omega
              · have hj0 : j = 0 := by omega
                subst hj0
                have HQ2 := Lib.hid (trimL_keep HTT.out HNU.out HP.out)
                have HNE := Lib.hid (show ∀ i x, (tcs (l.take (n + 1)))[i]? = some x → wr.cell? ((⟨g, 0, none⟩ : Addr).add i) = some x from fun i x hi => (HT.out.below HB.out).cells (g := g) rfl _ _ (tcs_get_take hi))
                have HONE := Lib.hid (show ∀ x ∈ tcs (l.take (n + 1)), x.oneCell' = true from fun x hx => tcs_one x _ hx)
                have HLN := Lib.hid (show (tcs (l.take (n + 1))).length = (n + 1) * 3 by rw [tcs_length, List.length_take, Nat.min_eq_left (by omega)])
                rcases HD with ⟨hbe, hbv⟩ | hb1
                · subst hbe
                  subst hbv
                  go_wp2_with (first | (at_builtin; refine wpList_append_nil _ rfl (.tmp 51) (.tmp 52) 28 rfl wo.heap.size 40 i40 3 Tryz.underlying28 hi40 (.slice (some ⟨g1, 0, none⟩) (n + 1) cap1) (n + 1) (tcs (l.take (n + 1))) rfl hown1 rfl ?_) | (at_builtin; refine wpList_append_lies _ rfl (.const (Value.slice none 0 0)) (.tmp 50) 28 rfl wo.heap.size 40 i40 z40 3 40 Tryz.underlying28 hi40 hz40 hs40 hb40 hc40 (by decide) (.slice none 0 0) 0 [] rfl (World.ownsRow_nil _ _ _ _) ⟨g, 0, none⟩ (n + 1) cap (tcs (l.take (n + 1))) rfl HLN.out HNE.out HONE.out (by omega) (by unfold maxLen; omega) (by omega) HB.out.size _ rfl ?_; intro g1 cap1 w2 hown1 hgrow1 hat1 hlt1; simp only [Nat.zero_add, List.nil_append] at hown1 ⊢))
                  go_ret
                  exact ⟨_, rfl, by unfold Toks; rw [HQ.out, HQ2.out, List.append_nil, List.length_take, Nat.min_eq_left (by omega)]; exact hown1, HB.out.grown hgrow1 HB.out.size (fun j hj => by cases hj)⟩
                · obtain ⟨gb, cb, hbv, _, _⟩ := World.ownsRow.form HR.out hb1
                  subst hbv
                  go_wp2_with (first | (at_builtin; refine wpList_append_lies _ rfl (.tmp 51) (.tmp 52) 28 rfl wo.heap.size 40 i40 z40 3 40 Tryz.underlying28 hi40 hz40 hs40 hb40 hc40 (by decide) (.slice (some ⟨g1, 0, none⟩) (n + 1) cap1) (n + 1) (tcs (l.take (n + 1))) rfl hown1 ⟨gb, 0, none⟩ bl.length cb (tcs bl) rfl (tcs_length bl) (fun i x hi => cell_keepN hgrow1 ((HR.out.cells (g := gb) rfl) i x hi)) (fun x hx => tcs_one x bl hx) (by omega) (by unfold maxLen; omega) (by omega) (by have := HB.out.size; have := hgrow1.size; omega) _ rfl ?_; intro g2 cap2 w3 hown2 hgrow2 hat2 hlt2) | (at_builtin; refine wpList_append_lies _ rfl (.const (Value.slice none 0 0)) (.tmp 50) 28 rfl wo.heap.size 40 i40 z40 3 40 Tryz.underlying28 hi40 hz40 hs40 hb40 hc40 (by decide) (.slice none 0 0) 0 [] rfl (World.ownsRow_nil _ _ _ _) ⟨g, 0, none⟩ (n + 1) cap (tcs (l.take (n + 1))) rfl HLN.out HNE.out HONE.out (by omega) (by unfold maxLen; omega) (by omega) HB.out.size _ rfl ?_; intro g1 cap1 w2 hown1 hgrow1 hat1 hlt1; simp only [Nat.zero_add, List.nil_append] at hown1 ⊢))
                  go_ret
                  have hB2 := HB.out.grown hgrow1 HB.out.size (fun j hj => by cases hj)
                  exact ⟨_, rfl, by unfold Toks; rw [HQ.out, HQ2.out, tcs_append, List.length_append, List.length_take, Nat.min_eq_left (by omega)]; exact hown2, hB2.grown hgrow2 hB2.size (fun j hj => (hown1.lt j hj).1)⟩
      · have hnz : n = 0 := by omega
        have h0 : n = 0 ∨ isNull t = false := .inl hnz
        have hpos : ¬ (0 < n) := by omega
        clear hnz hn1
        have hk0 : n = 0 ∨ isNull t = false := h0
        have HNU := Lib.hid hk0
        clear hk0 h0
        go_wp2_with fail
        go_loop [4] (fun k => ∃ j : Nat, k = .int .i64 (j : Int) ∧ j ≤ n ∧ Hid (∀ i x, j < i → i ≤ n → l[i]? = some x → x.p ≠ [45])) (fun k => (intOf k).toNat)
        case atStart => exact ⟨n, by go_num, Nat.le_refl _, Lib.hid (fun i x h1 h2 _ => absurd h1 (by omega))⟩
        case round =>
          obtain ⟨j, rfl, hj, HP⟩ := hrel
          obtain ⟨u, hu⟩ := HTOK.out j (by omega)
          obtain ⟨d0, _, _⟩ := tok_at (HT.out.below HB.out) hu
          have HU := Lib.hid hu
          clear hu
          by_cases hj0 : 0 < j
          · exact absurd hj0 (by omega)
          · have hj0 : j = 0 := by omega
            subst hj0
            have HQ2 := Lib.hid (trimL_keep HTT.out HNU.out HP.out)
            have HNE := Lib.hid (show ∀ i x, (tcs (l.take (n + 1)))[i]? = some x → wr.cell? ((⟨g, 0, none⟩ : Addr).add i) = some x from fun i x hi => (HT.out.below HB.out).cells (g := g) rfl _ _ (tcs_get_take hi))
            have HONE := Lib.hid (show ∀ x ∈ tcs (l.take (n + 1)), x.oneCell' = true from fun x hx => tcs_one x _ hx)
            have HLN := Lib.hid (show (tcs (l.take (n + 1))).length = (n + 1) * 3 by rw [tcs_length, List.length_take, Nat.min_eq_left (by omega)])
            rcases HD with ⟨hbe, hbv⟩ | hb1
            · subst hbe
              subst hbv
              go_wp2_with (first | (at_builtin; refine wpList_append_nil _ rfl (.tmp 51) (.tmp 52) 28 rfl wo.heap.size 40 i40 3 Tryz.underlying28 hi40 (.slice (some ⟨g1, 0, none⟩) (n + 1) cap1) (n + 1) (tcs (l.take (n + 1))) rfl hown1 rfl ?_) | (at_builtin; refine wpList_append_lies _ rfl (.const (Value.slice none 0 0)) (.tmp 50) 28 rfl wo.heap.size 40 i40 z40 3 40 Tryz.underlying28 hi40 hz40 hs40 hb40 hc40 (by decide) (.slice none 0 0) 0 [] rfl (World.ownsRow_nil _ _ _ _) ⟨g, 0, none⟩ (n + 1) cap (tcs (l.take (n + 1))) rfl HLN.out HNE.out HONE.out (by omega) (by unfold maxLen; omega) (by omega) HB.out.size _ rfl ?_; intro g1 cap1 w2 hown1 hgrow1 hat1 hlt1; simp only [Nat.zero_add, List.nil_append] at hown1 ⊢))
              go_ret
              exact ⟨_, rfl, by unfold Toks; rw [HQ.out, HQ2.out, List.append_nil, List.length_take, Nat.min_eq_left (by omega)]; exact hown1, HB.out.grown hgrow1 HB.out.size (fun j hj => by cases hj)⟩
            · obtain ⟨gb, cb, hbv, _, _⟩ := World.ownsRow.form HR.out hb1
              subst hbv
              go_wp2_with (first | (at_builtin; refine wpList_append_lies _ rfl (.tmp 51) (.tmp 52) 28 rfl wo.heap.size 40 i40 z40 3 40 Tryz.underlying28 hi40 hz40 hs40 hb40 hc40 (by decide) (.slice (some ⟨g1, 0, none⟩) (n + 1) cap1) (n + 1) (tcs (l.take (n + 1))) rfl hown1 ⟨gb, 0, none⟩ bl.length cb (tcs bl) rfl (tcs_length bl) (fun i x hi => cell_keepN hgrow1 ((HR.out.cells (g := gb) rfl) i x hi)) (fun x hx => tcs_one x bl hx) (by omega) (by unfold maxLen; omega) (by omega) (by have := HB.out.size; have := hgrow1.size; omega) _ rfl ?_; intro g2 cap2 w3 hown2 hgrow2 hat2 hlt2) | (at_builtin; refine wpList_append_lies _ rfl (.const (Value.slice none 0 0)) (.tmp 50) 28 rfl wo.heap.size 40 i40 z40 3 40 Tryz.underlying28 hi40 hz40 hs40 hb40 hc40 (by decide) (.slice none 0 0) 0 [] rfl (World.ownsRow_nil _ _ _ _) ⟨g, 0, none⟩ (n + 1) cap (tcs (l.take (n + 1))) rfl HLN.out HNE.out HONE.out (by omega) (by unfold maxLen; omega) (by omega) HB.out.size _ rfl ?_; intro g1 cap1 w2 hown1 hgrow1 hat1 hlt1; simp only [Nat.zero_add, List.nil_append] at hown1 ⊢))
              go_ret
              have hB2 := HB.out.grown hgrow1 HB.out.size (fun j hj => by cases hj)
              exact ⟨_, rfl, by unfold Toks; rw [HQ.out, HQ2.out, tcs_append, List.length_append, List.length_take, Nat.min_eq_left (by omega)]; exact hown2, hB2.grown hgrow2 hB2.size (fun j hj => (hown1.lt j hj).1)⟩
end Go.Proofs.Tz
