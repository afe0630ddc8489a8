/- Contract of the reference's mavenTokens (printed by gen_s9.py). -/
import Derived.Test.YtcehboopgjpfcaaGreatDoorS6
import Derived.Deep.RegionHeld3
import Derived.Deep.AppendLies
import Derived.BigQuiet
import Derived.Deep.QuietTactic
import Derived.WalkSpells
namespace Go.Proofs.Mv
/-- Where the reference stands in a text: what is read, and what is still to come. -/
def AtS (s pre : Bs) (fr j : Nat) (done : List Tok) : Prop := fr ≤ j ∧ j ≤ s.length ∧ tokS [] [] s = done ++ tokS pre ((s.take j).drop fr) (s.drop j)
theorem cur_snoc {s : Bs} {fr j : Nat} {c : UInt8} (hf : fr ≤ j) (hc : s[j]? = some c) : (s.take (j + 1)).drop fr = (s.take j).drop fr ++ [c] := by
  have hj := (List.getElem?_eq_some_iff.1 hc).1
  rw [Go.Proofs.Tz.take_snoc hc, List.drop_append_of_le_length (by rw [List.length_take]; omega)]
theorem drop_at {s : Bs} {j : Nat} {c : UInt8} (hc : s[j]? = some c) : s.drop j = c :: s.drop (j + 1) := by
  obtain ⟨hj, he⟩ := List.getElem?_eq_some_iff.1 hc
  rw [List.drop_eq_getElem_cons hj, he]
theorem cur_last {s : Bs} {fr j : Nat} {d : UInt8} (hf : fr < j) (hd : s[j - 1]? = some d) : (s.take j).drop fr ≠ [] ∧ ((s.take j).drop fr).getLastD 0 = d := by
  have hj := (List.getElem?_eq_some_iff.1 hd).1
  have h := cur_snoc (s := s) (fr := fr) (j := j - 1) (by omega) hd
  rw [show j - 1 + 1 = j by omega] at h
  rw [h]
  exact ⟨by simp, by simp⟩
theorem atS_start (s : Bs) : AtS s [] 0 0 [] := ⟨Nat.le_refl _, Nat.zero_le _, by simp⟩
theorem atS_end {s pre : Bs} {fr : Nat} {done : List Tok} (h : AtS s pre fr s.length done) : tokS [] [] s = done ++ [⟨pre, nv ((s.take s.length).drop fr) false, false⟩] := by
  have h3 := h.2.2
  rw [List.drop_eq_nil_of_le (Nat.le_refl s.length), tokS] at h3
  exact h3
theorem atS_mark {s pre : Bs} {fr j : Nat} {done : List Tok} {c : UInt8} (h : AtS s pre fr j done) (hc : s[j]? = some c) (hm : isMark c = true) : AtS s [c] (j + 1) (j + 1) (done ++ [⟨pre, nv ((s.take j).drop fr) false, false⟩]) := by
  have hj := (List.getElem?_eq_some_iff.1 hc).1
  refine ⟨Nat.le_refl _, hj, ?_⟩
  have e : (s.take (j + 1)).drop (j + 1) = [] := List.drop_eq_nil_of_le (by rw [List.length_take]; omega)
  rw [h.2.2, drop_at hc, tokS, if_pos hm, e, List.append_assoc]; rfl
theorem atS_meet {s pre : Bs} {fr j : Nat} {done : List Tok} {c d : UInt8} (h : AtS s pre fr j done) (hc : s[j]? = some c) (hm : isMark c = false) (hf : fr < j) (hd : s[j - 1]? = some d) (hne : isDig d ≠ isDig c) :
    AtS s [45] j (j + 1) (done ++ [⟨pre, nv ((s.take j).drop fr) (isDig c), false⟩]) := by
  have hj := (List.getElem?_eq_some_iff.1 hc).1
  obtain ⟨h1, h2⟩ := cur_last hf hd
  refine ⟨by omega, hj, ?_⟩
  have e : (s.take j).drop j = [] := List.drop_eq_nil_of_le (by rw [List.length_take]; omega)
  rw [h.2.2, drop_at hc, tokS, if_neg (by rw [hm]; decide), if_pos ⟨h1, by rw [h2]; exact hne⟩, cur_snoc (Nat.le_refl j) hc, e, List.append_assoc]; rfl
theorem atS_go {s pre : Bs} {fr j : Nat} {done : List Tok} {c : UInt8} (h : AtS s pre fr j done) (hc : s[j]? = some c) (hm : isMark c = false) (hg : fr = j ∨ ∃ d, s[j - 1]? = some d ∧ fr < j ∧ isDig d = isDig c) : AtS s pre fr (j + 1) done := by
  have hj := (List.getElem?_eq_some_iff.1 hc).1
  refine ⟨by have := h.1; omega, hj, ?_⟩
  have hn : ¬ ((s.take j).drop fr ≠ [] ∧ isDig (((s.take j).drop fr).getLastD 0) ≠ isDig c) := by
    rintro ⟨h1, h2⟩
    rcases hg with rfl | ⟨d, hd, hf, he⟩
    · exact h1 (List.drop_eq_nil_of_le (by rw [List.length_take]; omega))
    · rw [(cur_last hf hd).2] at h2; exact h2 he
  rw [h.2.2, drop_at hc, tokS, if_neg (by rw [hm]; decide), if_neg hn, cur_snoc h.1 hc]
end Go.Proofs.Mv
namespace Go.Proofs.Tz
open Go.RowKit Mv

theorem quiet_left {P : Program} {f : FuncId} {args : Array Value} {w : World} {n : Nat} {v : Value} (h : Calls P f args (w.drewN n) fun e w' => e = .returned v ∧ w.drewN n = w') :
    Calls P f args (w.drewN n) fun e w'' => e = .returned v ∧ ∃ m, w'' = w.drewN m := h.mono fun _ _ ⟨he, hm⟩ => ⟨he, n, hm.symm⟩
/-- One token more. -/
theorem toks_more {wo wv wx w2 : World} {ov : Value} {done : List Tok} {pre val : Bs} {g cap : Nat} (hT : Toks 40 wv wo.heap.size ov done) (hB : Below wo.heap.size wo wx)
    (hown : w2.ownsRow wo.heap.size 40 3 (.slice (some ⟨g, 0, none⟩) (done.length + 1) cap) (done.length + 1) (tcs done ++ [sv pre, sv val, .bool false]))
    (hgrow : wx.grownBy w2 ov.ownBlock) :
    Hid (Toks 40 w2 wo.heap.size (.slice (some ⟨g, 0, none⟩) (done.length + 1) cap) (done ++ [⟨pre, val, false⟩])) ∧ Hid (Below wo.heap.size wo w2) := by
  refine ⟨Lib.hid ?_, Lib.hid (hB.grown hgrow hB.size (fun j hj => hT.lt j hj |>.1))⟩
  unfold Toks
  rw [tcs_append, List.length_append]
  exact hown

set_option maxHeartbeats 16000000 in
set_option maxRecDepth 100000 in
theorem tokens42 (s : Bs) (hs : s.length ≤ 100000) (w : World) :
    Calls Tryz.prog 42 #[.string (str s)] w fun e w' => ∃ v, e = .returned v ∧ Toks 40 w' w.heap.size v (tokS [] [] s) ∧ Below w.heap.size w w' := by
  obtain ⟨i40, z40, hi40, hz40, hs40, hb40, hc40⟩ := info40
  have hss := str_size
  go_enter Tryz.func42, Tryz.ntmps42
  go_wp2_with fail
  obtain ⟨wo, rfl⟩ : ∃ wo : World, wo = w := ⟨_, rfl⟩
  go_loopw [3, 4, 5, 6, 7, 8] (fun o p f i mk mt wr => ∃ (ov mv tv : Value) (pre : Bs) (fr j : Nat) (done : List Tok), ov = o ∧ mv = mk ∧ tv = mt ∧ p = .string (str pre) ∧ f = .int .i64 (fr : Int) ∧ i = .int .i64 (j : Int) ∧ j ≤ s.length + 1 ∧ fr ≤ s.length + 1 ∧ done.length ≤ j ∧
      Hid (Toks 40 wr wo.heap.size ov done) ∧ Hid (Below wo.heap.size wo wr) ∧ Hid (AtS s pre fr j done ∨ (j = s.length + 1 ∧ tokS [] [] s = done))) (fun _ _ _ i _ _ _ => s.length + 1 - (intOf i).toNat)
  case atStart => exact ⟨_, _, _, [], 0, 0, [], rfl, rfl, rfl, rfl, rfl, rfl, Nat.zero_le _, Nat.zero_le _, Nat.zero_le _, Lib.hid (World.ownsRow_nil _ _ _ _), Lib.hid (Below.refl _ _), Lib.hid (.inl (atS_start s))⟩
  case round =>
    obtain ⟨ov, mv, tv, pre, fr, j, done, rfl, rfl, rfl, rfl, rfl, rfl, hj, hfr, hdl, HT, HB, HA⟩ := hrel
    by_cases hend : j = s.length + 1
    · have hfin : tokS [] [] s = done := by
        rcases HA.out with h | h
        · have := h.2.1; omega
        · exact h.2
      have HF := Lib.hid hfin
      clear hfin
      subst hend
      go_wp2_with fail
      go_ret
      exact ⟨_, rfl, by rw [HF.out]; exact HT.out, HB.out⟩
    · have hat : AtS s pre fr j done := by
        rcases HA.out with h | h
        · exact h
        · exact absurd h.1 hend
      have hf1 := hat.1
      have hj1 := hat.2.1
      have HAT := Lib.hid hat
      clear HA hat
      have hszo : wo.heap.size ≤ wr.heap.size := HB.out.size
      have q5 := sl_m (l := s) (i := fr) (j := j) hf1 hj1
      obtain ⟨cur, hcur⟩ : ∃ c, c = (s.take j).drop fr := ⟨_, rfl⟩
      have hcl : cur.length ≤ 1000000 := by rw [hcur, List.length_drop, List.length_take]; omega
      rw [← hcur] at q5
      have HCUR := Lib.hid hcur
      clear hcur
      have H54 := Lib.hid fun b w => value54 cur b hcl w
      by_cases hle : j = s.length
      · have hcut := HAT.out
        subst hle
        have hlast := atS_end hcut
        rw [← HCUR.out] at hlast
        have HL := Lib.hid hlast
        clear hcut hlast
        go_wp2_with fail
        go_quiet (fail)
        go_wp2_with fail
        obtain ⟨w9, hw9⟩ : ∃ x, x = wr.drewN nq := ⟨_, rfl⟩
        have HT9 : Hid (Toks 40 w9 wo.heap.size ov done) := by rw [hw9]; exact HT
        have HB9 : Hid (Below wo.heap.size wo w9) := by rw [hw9]; exact Lib.hid (below_drewN' HB.out _)
        rw [← hw9]
        clear hw9 HT HB
        have hsz9 : wo.heap.size ≤ w9.heap.size := HB9.out.size
        refine wp_region_held_drew (S := fun _ => True) (by kernel_rfl) trivial (fun _ => ?_)
        refine wpAnyH_take (i := 0) (v := ov) rfl (by kernel_rfl) (by kernel_rfl) (by kernel_rfl) (fun _ _ _ h => h) (Or.inl ⟨by kernel_rfl, fun w _ => by go_simp⟩) trivial ?_
        try simp only [Act.put, List.setIfInBounds_toArray]
        refine wpAnyH_take (i := 1) (v := .string (str pre)) rfl (by kernel_rfl) (by kernel_rfl) (by kernel_rfl) (fun _ _ _ h => h) (Or.inl ⟨by kernel_rfl, fun w _ => by go_simp⟩) trivial ?_
        try simp only [Act.put]
        refine wpAnyH_take (i := 2) (v := .string (str s)) rfl (by kernel_rfl) (by kernel_rfl) (by kernel_rfl) (fun _ _ _ h => h) (Or.inl ⟨by kernel_rfl, fun w _ => by go_simp⟩) trivial ?_
        try simp only [Act.put]
        refine wpAnyH_take (i := 3) (v := .int .i64 (fr : Int)) rfl (by kernel_rfl) (by kernel_rfl) (by kernel_rfl) (fun _ _ _ h => h) (Or.inl ⟨by kernel_rfl, fun w _ => by go_simp⟩) trivial ?_
        try simp only [Act.put]
        refine wpAnyH_take (i := 4) (v := .int .i64 (s.length : Int)) rfl (by kernel_rfl) (by kernel_rfl) (by kernel_rfl) (fun _ _ _ h => h) (Or.inl ⟨by kernel_rfl, fun w _ => by go_simp⟩) trivial ?_
        try simp only [Act.put]
        refine wpAnyH_take (i := 5) (v := .string (str cur)) rfl (by kernel_rfl) (by kernel_rfl) (by kernel_rfl) (fun _ _ _ h => h) (Or.inl ⟨by kernel_rfl, fun w _ => by go_simp⟩) trivial ?_
        try simp only [Act.put]
        refine wpAnyH_take (i := 6) (v := .bool false) rfl (by kernel_rfl) (by kernel_rfl) (by kernel_rfl) (fun _ _ _ h => h) (Or.inl ⟨by kernel_rfl, fun w _ => by go_simp⟩) trivial ?_
        try simp only [Act.put]
        refine wpAnyH_take (i := 7) (v := .bool false) rfl (by kernel_rfl) (by kernel_rfl) (by kernel_rfl) (fun _ _ _ h => h) (Or.inl ⟨by kernel_rfl, fun w _ => by go_simp⟩) trivial ?_
        try simp only [Act.put]
        refine wpAnyH_take (i := 8) (v := undef) rfl (by kernel_rfl) (by kernel_rfl) (by kernel_rfl) (fun _ _ _ h => h) (Or.inr ⟨by kernel_rfl, rfl⟩) trivial ?_
        try simp only [Act.put]
        refine wpAnyH_take (i := 9) (v := undef) rfl (by kernel_rfl) (by kernel_rfl) (by kernel_rfl) (fun _ _ _ h => h) (Or.inr ⟨by kernel_rfl, rfl⟩) trivial ?_
        try simp only [Act.put]
        refine wpAnyH_take (i := 10) (v := undef) rfl (by kernel_rfl) (by kernel_rfl) (by kernel_rfl) (fun _ _ _ h => h) (Or.inr ⟨by kernel_rfl, rfl⟩) trivial ?_
        try simp only [Act.put]
        refine wpAnyH_take (i := 11) (v := undef) rfl (by kernel_rfl) (by kernel_rfl) (by kernel_rfl) (fun _ _ _ h => h) (Or.inr ⟨by kernel_rfl, rfl⟩) trivial ?_
        try simp only [Act.put]
        refine wpAnyH_take (i := 12) (v := .bool false) rfl (by kernel_rfl) (by kernel_rfl) (by kernel_rfl) (fun _ _ _ h => h) (Or.inl ⟨by kernel_rfl, fun w _ => by go_simp⟩) trivial ?_
        try simp only [Act.put]
        refine wpAnyH_ready (rs := [13]) (by kernel_rfl) (by simp) ?_
        refine AllReadyH.cons rfl (fun K hK => ?_) AllReadyH.nil
        go_simp
        go_at_call 54
        refine (H54.out false _).mono ?_
        rintro e w1 ⟨rfl, rfl⟩
        refine hK.out _ _ trivial (fun _ => ?_)
        clear hK K
        try simp only [Act.put, List.setIfInBounds_toArray, List.set_cons_zero, List.set_cons_succ]
        refine wpAnyH_take (i := 14) (v := .agg #[.string (str pre), .string (str (nv cur false)), .bool false]) rfl (by kernel_rfl) (by kernel_rfl) (by kernel_rfl) (fun _ _ _ h => h) (Or.inl ⟨by kernel_rfl, fun w _ => by go_simp⟩) trivial ?_
        try simp only [Act.put, List.setIfInBounds_toArray]
        refine wpAnyH_ready (rs := [15]) (by kernel_rfl) (by simp) ?_
        refine AllReadyH.cons rfl (fun K hK => ?_) AllReadyH.nil
        go_simp
        refine hK.out _ _ trivial (fun _ => ?_)
        clear hK K
        try simp only [Act.put, List.setIfInBounds_toArray, List.set_cons_zero, List.set_cons_succ]
        refine wpAnyH_ready (rs := [16]) (by kernel_rfl) (by simp) ?_
        refine AllReadyH.cons rfl (fun K hK => ?_) AllReadyH.nil
        refine step_append_lies _ (by rfl) (.tmp 68) (.tmp 83) 28 (by rfl) wo.heap.size 40 i40 z40 3 40 Tryz.underlying28 hi40 hz40 hs40 hb40 hc40 (by decide) ov done.length (tcs done) (by rfl) (HT9.out.alloc _) ⟨w9.heap.size, 0, none⟩ 1 1 [sv pre, sv (nv cur false), .bool false] (by rfl) rfl (World.news_of_block (cs := #[sv pre, sv (nv cur false), .bool false]) (t := 40) (fr := (0, 0)) (heap_alloc_new _ _)) (by intro u hu; simp at hu; rcases hu with rfl | rfl | rfl <;> rfl) (by decide) (by unfold maxLen; omega) (by omega) (by simp; omega) _ rfl ?_
        intro g cap w2 hown2 hgrow2 hat2 hlt2
        refine hK.out _ _ trivial (fun _ => ?_)
        clear hK K
        try simp only [Act.put, List.setIfInBounds_toArray]
        refine wpAnyH_take (i := 17) (v := .slice (some ⟨g, 0, none⟩) (done.length + 1) cap) rfl (by kernel_rfl) (by kernel_rfl) (by kernel_rfl) (fun _ _ _ h => h) (Or.inl ⟨by kernel_rfl, fun w _ => by go_simp⟩) trivial ?_
        try simp only [Act.put]
        refine wpAnyH_done (by kernel_rfl) ?_ _
        obtain ⟨HT2, HB2⟩ := toks_more HT9.out (HB9.out.drew.alloc hsz9 _) hown2 hgrow2
        clear hown2 hgrow2 hat2 hlt2
        go_wp2_with fail
        go_roundw
        case rel => exact ⟨_, _, _, [45], s.length, s.length + 1, done ++ [⟨pre, nv cur false, false⟩], rfl, rfl, rfl, rfl, rfl, by go_num, Nat.le_refl _, by omega, by rw [List.length_append]; simp; omega, HT2, HB2, Lib.hid (.inr ⟨rfl, HL.out⟩)⟩
        case measure => simp [intOf]
      · have hlt : j < s.length := by omega
        obtain ⟨c, hc⟩ : ∃ c, s[j]? = some c := ⟨_, List.getElem?_eq_getElem hlt⟩
        have q2 := str_index hc
        unfold byt at q2
        have HC := Lib.hid hc
        clear hc
        by_cases hmk : isMark c = true
        · have q6 := sl_m (l := s) (i := j) (j := j + 1) (by omega) hlt
          rw [show (s.take (j + 1)).drop j = [c] by rw [cur_snoc (Nat.le_refl j) HC.out, List.drop_eq_nil_of_le (by rw [List.length_take]; omega)]; rfl, show ((j + 1 : Nat) : Int) = (j : Int) + 1 by omega] at q6
          have HN := Lib.hid (atS_mark HAT.out HC.out hmk)
          rw [← HCUR.out] at HN
          have hmk2 : c = 46 ∨ (c ≠ 46 ∧ c = 45) := by
            simp only [isMark, Bool.or_eq_true, decide_eq_true_eq] at hmk
            by_cases h : c = 46
            · exact .inl h
            · rcases hmk with h2 | h2 <;> first | exact absurd h2 h | exact .inr ⟨h, h2⟩
          rcases hmk2 with hmk2 | ⟨hmk3, hmk2⟩
          · have m1 : ((c.toNat : Int) == 46) = true := by rw [hmk2]; rfl
            clear hmk2 hmk
            go_wp2_with fail
            go_quiet (fail)
            go_wp2_with fail
            obtain ⟨w9, hw9⟩ : ∃ x, x = wr.drewN nq := ⟨_, rfl⟩
            have HT9 : Hid (Toks 40 w9 wo.heap.size ov done) := by rw [hw9]; exact HT
            have HB9 : Hid (Below wo.heap.size wo w9) := by rw [hw9]; exact Lib.hid (below_drewN' HB.out _)
            rw [← hw9]
            clear hw9 HT HB
            have hsz9 : wo.heap.size ≤ w9.heap.size := HB9.out.size
            refine wp_region_held_drew (S := fun _ => True) (by kernel_rfl) trivial (fun _ => ?_)
            refine wpAnyH_take (i := 0) (v := ov) rfl (by kernel_rfl) (by kernel_rfl) (by kernel_rfl) (fun _ _ _ h => h) (Or.inl ⟨by kernel_rfl, fun w _ => by go_simp⟩) trivial ?_
            try simp only [Act.put, List.setIfInBounds_toArray]
            refine wpAnyH_take (i := 1) (v := .string (str pre)) rfl (by kernel_rfl) (by kernel_rfl) (by kernel_rfl) (fun _ _ _ h => h) (Or.inl ⟨by kernel_rfl, fun w _ => by go_simp⟩) trivial ?_
            try simp only [Act.put]
            refine wpAnyH_take (i := 2) (v := .string (str s)) rfl (by kernel_rfl) (by kernel_rfl) (by kernel_rfl) (fun _ _ _ h => h) (Or.inl ⟨by kernel_rfl, fun w _ => by go_simp⟩) trivial ?_
            try simp only [Act.put]
            refine wpAnyH_take (i := 3) (v := .int .i64 (fr : Int)) rfl (by kernel_rfl) (by kernel_rfl) (by kernel_rfl) (fun _ _ _ h => h) (Or.inl ⟨by kernel_rfl, fun w _ => by go_simp⟩) trivial ?_
            try simp only [Act.put]
            refine wpAnyH_take (i := 4) (v := .int .i64 (j : Int)) rfl (by kernel_rfl) (by kernel_rfl) (by kernel_rfl) (fun _ _ _ h => h) (Or.inl ⟨by kernel_rfl, fun w _ => by go_simp⟩) trivial ?_
            try simp only [Act.put]
            refine wpAnyH_take (i := 5) (v := .string (str cur)) rfl (by kernel_rfl) (by kernel_rfl) (by kernel_rfl) (fun _ _ _ h => h) (Or.inl ⟨by kernel_rfl, fun w _ => by go_simp⟩) trivial ?_
            try simp only [Act.put]
            refine wpAnyH_take (i := 6) (v := .bool false) rfl (by kernel_rfl) (by kernel_rfl) (by kernel_rfl) (fun _ _ _ h => h) (Or.inl ⟨by kernel_rfl, fun w _ => by go_simp⟩) trivial ?_
            try simp only [Act.put]
            refine wpAnyH_take (i := 7) (v := .bool false) rfl (by kernel_rfl) (by kernel_rfl) (by kernel_rfl) (fun _ _ _ h => h) (Or.inl ⟨by kernel_rfl, fun w _ => by go_simp⟩) trivial ?_
            try simp only [Act.put]
            refine wpAnyH_take (i := 8) (v := undef) rfl (by kernel_rfl) (by kernel_rfl) (by kernel_rfl) (fun _ _ _ h => h) (Or.inr ⟨by kernel_rfl, rfl⟩) trivial ?_
            try simp only [Act.put]
            refine wpAnyH_take (i := 9) (v := undef) rfl (by kernel_rfl) (by kernel_rfl) (by kernel_rfl) (fun _ _ _ h => h) (Or.inr ⟨by kernel_rfl, rfl⟩) trivial ?_
            try simp only [Act.put]
            refine wpAnyH_take (i := 10) (v := undef) rfl (by kernel_rfl) (by kernel_rfl) (by kernel_rfl) (fun _ _ _ h => h) (Or.inr ⟨by kernel_rfl, rfl⟩) trivial ?_
            try simp only [Act.put]
            refine wpAnyH_take (i := 11) (v := undef) rfl (by kernel_rfl) (by kernel_rfl) (by kernel_rfl) (fun _ _ _ h => h) (Or.inr ⟨by kernel_rfl, rfl⟩) trivial ?_
            try simp only [Act.put]
            refine wpAnyH_take (i := 12) (v := .bool false) rfl (by kernel_rfl) (by kernel_rfl) (by kernel_rfl) (fun _ _ _ h => h) (Or.inl ⟨by kernel_rfl, fun w _ => by go_simp⟩) trivial ?_
            try simp only [Act.put]
            refine wpAnyH_ready (rs := [13]) (by kernel_rfl) (by simp) ?_
            refine AllReadyH.cons rfl (fun K hK => ?_) AllReadyH.nil
            go_simp
            go_at_call 54
            refine (H54.out false _).mono ?_
            rintro e w1 ⟨rfl, rfl⟩
            refine hK.out _ _ trivial (fun _ => ?_)
            clear hK K
            try simp only [Act.put, List.setIfInBounds_toArray, List.set_cons_zero, List.set_cons_succ]
            refine wpAnyH_take (i := 14) (v := .agg #[.string (str pre), .string (str (nv cur false)), .bool false]) rfl (by kernel_rfl) (by kernel_rfl) (by kernel_rfl) (fun _ _ _ h => h) (Or.inl ⟨by kernel_rfl, fun w _ => by go_simp⟩) trivial ?_
            try simp only [Act.put, List.setIfInBounds_toArray]
            refine wpAnyH_ready (rs := [15]) (by kernel_rfl) (by simp) ?_
            refine AllReadyH.cons rfl (fun K hK => ?_) AllReadyH.nil
            go_simp
            refine hK.out _ _ trivial (fun _ => ?_)
            clear hK K
            try simp only [Act.put, List.setIfInBounds_toArray, List.set_cons_zero, List.set_cons_succ]
            refine wpAnyH_ready (rs := [16]) (by kernel_rfl) (by simp) ?_
            refine AllReadyH.cons rfl (fun K hK => ?_) AllReadyH.nil
            refine step_append_lies _ (by rfl) (.tmp 68) (.tmp 83) 28 (by rfl) wo.heap.size 40 i40 z40 3 40 Tryz.underlying28 hi40 hz40 hs40 hb40 hc40 (by decide) ov done.length (tcs done) (by rfl) (HT9.out.alloc _) ⟨w9.heap.size, 0, none⟩ 1 1 [sv pre, sv (nv cur false), .bool false] (by rfl) rfl (World.news_of_block (cs := #[sv pre, sv (nv cur false), .bool false]) (t := 40) (fr := (0, 0)) (heap_alloc_new _ _)) (by intro u hu; simp at hu; rcases hu with rfl | rfl | rfl <;> rfl) (by decide) (by unfold maxLen; omega) (by omega) (by simp; omega) _ rfl ?_
            intro g cap w2 hown2 hgrow2 hat2 hlt2
            refine hK.out _ _ trivial (fun _ => ?_)
            clear hK K
            try simp only [Act.put, List.setIfInBounds_toArray]
            refine wpAnyH_take (i := 17) (v := .slice (some ⟨g, 0, none⟩) (done.length + 1) cap) rfl (by kernel_rfl) (by kernel_rfl) (by kernel_rfl) (fun _ _ _ h => h) (Or.inl ⟨by kernel_rfl, fun w _ => by go_simp⟩) trivial ?_
            try simp only [Act.put]
            refine wpAnyH_done (by kernel_rfl) ?_ _
            obtain ⟨HT2, HB2⟩ := toks_more HT9.out (HB9.out.drew.alloc hsz9 _) hown2 hgrow2
            clear hown2 hgrow2 hat2 hlt2
            go_wp2_with fail
            go_roundw
            case rel => exact ⟨_, _, _, [c], j + 1, j + 1, done ++ [⟨pre, nv cur false, false⟩], rfl, rfl, rfl, rfl, by go_num, by go_num, by omega, by omega, by rw [List.length_append]; simp; omega, HT2, HB2, Lib.hid (.inl HN.out)⟩
            case measure => simp [intOf]; omega
          · have m1 : ((c.toNat : Int) == 46) = false := by rw [hmk2]; rfl
            have m2 : ((c.toNat : Int) == 45) = true := by rw [hmk2]; rfl
            clear hmk2 hmk hmk3
            go_wp2_with fail
            go_quiet (fail)
            go_wp2_with fail
            obtain ⟨w9, hw9⟩ : ∃ x, x = wr.drewN nq := ⟨_, rfl⟩
            have HT9 : Hid (Toks 40 w9 wo.heap.size ov done) := by rw [hw9]; exact HT
            have HB9 : Hid (Below wo.heap.size wo w9) := by rw [hw9]; exact Lib.hid (below_drewN' HB.out _)
            rw [← hw9]
            clear hw9 HT HB
            have hsz9 : wo.heap.size ≤ w9.heap.size := HB9.out.size
            refine wp_region_held_drew (S := fun _ => True) (by kernel_rfl) trivial (fun _ => ?_)
            refine wpAnyH_take (i := 0) (v := ov) rfl (by kernel_rfl) (by kernel_rfl) (by kernel_rfl) (fun _ _ _ h => h) (Or.inl ⟨by kernel_rfl, fun w _ => by go_simp⟩) trivial ?_
            try simp only [Act.put, List.setIfInBounds_toArray]
            refine wpAnyH_take (i := 1) (v := .string (str pre)) rfl (by kernel_rfl) (by kernel_rfl) (by kernel_rfl) (fun _ _ _ h => h) (Or.inl ⟨by kernel_rfl, fun w _ => by go_simp⟩) trivial ?_
            try simp only [Act.put]
            refine wpAnyH_take (i := 2) (v := .string (str s)) rfl (by kernel_rfl) (by kernel_rfl) (by kernel_rfl) (fun _ _ _ h => h) (Or.inl ⟨by kernel_rfl, fun w _ => by go_simp⟩) trivial ?_
            try simp only [Act.put]
            refine wpAnyH_take (i := 3) (v := .int .i64 (fr : Int)) rfl (by kernel_rfl) (by kernel_rfl) (by kernel_rfl) (fun _ _ _ h => h) (Or.inl ⟨by kernel_rfl, fun w _ => by go_simp⟩) trivial ?_
            try simp only [Act.put]
            refine wpAnyH_take (i := 4) (v := .int .i64 (j : Int)) rfl (by kernel_rfl) (by kernel_rfl) (by kernel_rfl) (fun _ _ _ h => h) (Or.inl ⟨by kernel_rfl, fun w _ => by go_simp⟩) trivial ?_
            try simp only [Act.put]
            refine wpAnyH_take (i := 5) (v := .string (str cur)) rfl (by kernel_rfl) (by kernel_rfl) (by kernel_rfl) (fun _ _ _ h => h) (Or.inl ⟨by kernel_rfl, fun w _ => by go_simp⟩) trivial ?_
            try simp only [Act.put]
            refine wpAnyH_take (i := 6) (v := .bool false) rfl (by kernel_rfl) (by kernel_rfl) (by kernel_rfl) (fun _ _ _ h => h) (Or.inl ⟨by kernel_rfl, fun w _ => by go_simp⟩) trivial ?_
            try simp only [Act.put]
            refine wpAnyH_take (i := 7) (v := .bool false) rfl (by kernel_rfl) (by kernel_rfl) (by kernel_rfl) (fun _ _ _ h => h) (Or.inl ⟨by kernel_rfl, fun w _ => by go_simp⟩) trivial ?_
            try simp only [Act.put]
            refine wpAnyH_take (i := 8) (v := undef) rfl (by kernel_rfl) (by kernel_rfl) (by kernel_rfl) (fun _ _ _ h => h) (Or.inr ⟨by kernel_rfl, rfl⟩) trivial ?_
            try simp only [Act.put]
            refine wpAnyH_take (i := 9) (v := undef) rfl (by kernel_rfl) (by kernel_rfl) (by kernel_rfl) (fun _ _ _ h => h) (Or.inr ⟨by kernel_rfl, rfl⟩) trivial ?_
            try simp only [Act.put]
            refine wpAnyH_take (i := 10) (v := undef) rfl (by kernel_rfl) (by kernel_rfl) (by kernel_rfl) (fun _ _ _ h => h) (Or.inr ⟨by kernel_rfl, rfl⟩) trivial ?_
            try simp only [Act.put]
            refine wpAnyH_take (i := 11) (v := undef) rfl (by kernel_rfl) (by kernel_rfl) (by kernel_rfl) (fun _ _ _ h => h) (Or.inr ⟨by kernel_rfl, rfl⟩) trivial ?_
            try simp only [Act.put]
            refine wpAnyH_take (i := 12) (v := .bool false) rfl (by kernel_rfl) (by kernel_rfl) (by kernel_rfl) (fun _ _ _ h => h) (Or.inl ⟨by kernel_rfl, fun w _ => by go_simp⟩) trivial ?_
            try simp only [Act.put]
            refine wpAnyH_ready (rs := [13]) (by kernel_rfl) (by simp) ?_
            refine AllReadyH.cons rfl (fun K hK => ?_) AllReadyH.nil
            go_simp
            go_at_call 54
            refine (H54.out false _).mono ?_
            rintro e w1 ⟨rfl, rfl⟩
            refine hK.out _ _ trivial (fun _ => ?_)
            clear hK K
            try simp only [Act.put, List.setIfInBounds_toArray, List.set_cons_zero, List.set_cons_succ]
            refine wpAnyH_take (i := 14) (v := .agg #[.string (str pre), .string (str (nv cur false)), .bool false]) rfl (by kernel_rfl) (by kernel_rfl) (by kernel_rfl) (fun _ _ _ h => h) (Or.inl ⟨by kernel_rfl, fun w _ => by go_simp⟩) trivial ?_
            try simp only [Act.put, List.setIfInBounds_toArray]
            refine wpAnyH_ready (rs := [15]) (by kernel_rfl) (by simp) ?_
            refine AllReadyH.cons rfl (fun K hK => ?_) AllReadyH.nil
            go_simp
            refine hK.out _ _ trivial (fun _ => ?_)
            clear hK K
            try simp only [Act.put, List.setIfInBounds_toArray, List.set_cons_zero, List.set_cons_succ]
            refine wpAnyH_ready (rs := [16]) (by kernel_rfl) (by simp) ?_
            refine AllReadyH.cons rfl (fun K hK => ?_) AllReadyH.nil
            refine step_append_lies _ (by rfl) (.tmp 68) (.tmp 83) 28 (by rfl) wo.heap.size 40 i40 z40 3 40 Tryz.underlying28 hi40 hz40 hs40 hb40 hc40 (by decide) ov done.length (tcs done) (by rfl) (HT9.out.alloc _) ⟨w9.heap.size, 0, none⟩ 1 1 [sv pre, sv (nv cur false), .bool false] (by rfl) rfl (World.news_of_block (cs := #[sv pre, sv (nv cur false), .bool false]) (t := 40) (fr := (0, 0)) (heap_alloc_new _ _)) (by intro u hu; simp at hu; rcases hu with rfl | rfl | rfl <;> rfl) (by decide) (by unfold maxLen; omega) (by omega) (by simp; omega) _ rfl ?_
            intro g cap w2 hown2 hgrow2 hat2 hlt2
            refine hK.out _ _ trivial (fun _ => ?_)
            clear hK K
            try simp only [Act.put, List.setIfInBounds_toArray]
            refine wpAnyH_take (i := 17) (v := .slice (some ⟨g, 0, none⟩) (done.length + 1) cap) rfl (by kernel_rfl) (by kernel_rfl) (by kernel_rfl) (fun _ _ _ h => h) (Or.inl ⟨by kernel_rfl, fun w _ => by go_simp⟩) trivial ?_
            try simp only [Act.put]
            refine wpAnyH_done (by kernel_rfl) ?_ _
            obtain ⟨HT2, HB2⟩ := toks_more HT9.out (HB9.out.drew.alloc hsz9 _) hown2 hgrow2
            clear hown2 hgrow2 hat2 hlt2
            go_wp2_with fail
            go_roundw
            case rel => exact ⟨_, _, _, [c], j + 1, j + 1, done ++ [⟨pre, nv cur false, false⟩], rfl, rfl, rfl, rfl, by go_num, by go_num, by omega, by omega, by rw [List.length_append]; simp; omega, HT2, HB2, Lib.hid (.inl HN.out)⟩
            case measure => simp [intOf]; omega
        · have hmk : isMark c = false := by simpa using hmk
          have hm2 : c ≠ 46 ∧ c ≠ 45 := by
            simp only [isMark, Bool.or_eq_false_iff, decide_eq_false_iff_not] at hmk
            exact ⟨by first | exact hmk.1 | exact hmk.2, by first | exact hmk.2 | exact hmk.1⟩
          have m1 : ((c.toNat : Int) == 46) = false := by
            simp only [beq_eq_false_iff_ne, ne_eq]
            intro e
            exact hm2.1 (UInt8.toNat_inj.1 (by show c.toNat = 46; omega))
          have m2 : ((c.toNat : Int) == 45) = false := by
            simp only [beq_eq_false_iff_ne, ne_eq]
            intro e
            exact hm2.2 (UInt8.toNat_inj.1 (by show c.toNat = 45; omega))
          clear hm2
          by_cases hfj : fr < j
          · obtain ⟨d, hd⟩ : ∃ d, s[j - 1]? = some d := ⟨_, List.getElem?_eq_getElem (by omega)⟩
            have q3 := str_index hd
            unfold byt at q3
            rw [show ((j - 1 : Nat) : Int) = (j : Int) - 1 by omega] at q3
            by_cases hne : isDig d = isDig c
            · have m3 : (isDig c == isDig d) = true := by rw [hne]; simp
              have HN := Lib.hid (atS_go HAT.out HC.out hmk (.inr ⟨d, hd, hfj, hne⟩))
              clear hd hne hmk
              go_wp2_with fail
              go_quiet (first | (go_at_call_of 53 (Value.int IntKind.u8 (c.toNat : Int)); exact quiet_left (isDigit53 c _)) | (go_at_call_of 53 (Value.int IntKind.u8 (d.toNat : Int)); exact quiet_left (isDigit53 d _)))
              go_wp2_with fail
              go_roundw
              case rel => exact ⟨_, _, _, pre, fr, j + 1, done, rfl, rfl, rfl, rfl, rfl, by go_num, by omega, by omega, by omega, HT, Lib.hid (below_drewN' HB.out _), Lib.hid (.inl HN.out)⟩
              case measure => simp [intOf]; omega
            · have m3 : (isDig c == isDig d) = false := by simp only [beq_eq_false_iff_ne, ne_eq]; exact fun e => hne e.symm
              have HN := Lib.hid (atS_meet HAT.out HC.out hmk hfj hd hne)
              rw [← HCUR.out] at HN
              clear hd hne hmk
              go_wp2_with fail
              go_quiet (first | (go_at_call_of 53 (Value.int IntKind.u8 (c.toNat : Int)); exact quiet_left (isDigit53 c _)) | (go_at_call_of 53 (Value.int IntKind.u8 (d.toNat : Int)); exact quiet_left (isDigit53 d _)))
              go_wp2_with fail
              obtain ⟨w9, hw9⟩ : ∃ x, x = wr.drewN nq := ⟨_, rfl⟩
              have HT9 : Hid (Toks 40 w9 wo.heap.size ov done) := by rw [hw9]; exact HT
              have HB9 : Hid (Below wo.heap.size wo w9) := by rw [hw9]; exact Lib.hid (below_drewN' HB.out _)
              rw [← hw9]
              clear hw9 HT HB
              have hsz9 : wo.heap.size ≤ w9.heap.size := HB9.out.size
              refine wp_region_held_drew (S := fun _ => True) (by kernel_rfl) trivial (fun _ => ?_)
              refine wpAnyH_take (i := 0) (v := ov) rfl (by kernel_rfl) (by kernel_rfl) (by kernel_rfl) (fun _ _ _ h => h) (Or.inl ⟨by kernel_rfl, fun w _ => by go_simp⟩) trivial ?_
              try simp only [Act.put, List.setIfInBounds_toArray]
              refine wpAnyH_take (i := 1) (v := .string (str pre)) rfl (by kernel_rfl) (by kernel_rfl) (by kernel_rfl) (fun _ _ _ h => h) (Or.inl ⟨by kernel_rfl, fun w _ => by go_simp⟩) trivial ?_
              try simp only [Act.put]
              refine wpAnyH_take (i := 2) (v := .string (str s)) rfl (by kernel_rfl) (by kernel_rfl) (by kernel_rfl) (fun _ _ _ h => h) (Or.inl ⟨by kernel_rfl, fun w _ => by go_simp⟩) trivial ?_
              try simp only [Act.put]
              refine wpAnyH_take (i := 3) (v := .int .i64 (fr : Int)) rfl (by kernel_rfl) (by kernel_rfl) (by kernel_rfl) (fun _ _ _ h => h) (Or.inl ⟨by kernel_rfl, fun w _ => by go_simp⟩) trivial ?_
              try simp only [Act.put]
              refine wpAnyH_take (i := 4) (v := .int .i64 (j : Int)) rfl (by kernel_rfl) (by kernel_rfl) (by kernel_rfl) (fun _ _ _ h => h) (Or.inl ⟨by kernel_rfl, fun w _ => by go_simp⟩) trivial ?_
              try simp only [Act.put]
              refine wpAnyH_take (i := 5) (v := .string (str cur)) rfl (by kernel_rfl) (by kernel_rfl) (by kernel_rfl) (fun _ _ _ h => h) (Or.inl ⟨by kernel_rfl, fun w _ => by go_simp⟩) trivial ?_
              try simp only [Act.put]
              refine wpAnyH_take (i := 6) (v := .bool true) rfl (by kernel_rfl) (by kernel_rfl) (by kernel_rfl) (fun _ _ _ h => h) (Or.inl ⟨by kernel_rfl, fun w _ => by go_simp⟩) trivial ?_
              try simp only [Act.put]
              refine wpAnyH_take (i := 7) (v := .bool true) rfl (by kernel_rfl) (by kernel_rfl) (by kernel_rfl) (fun _ _ _ h => h) (Or.inl ⟨by kernel_rfl, fun w _ => by go_simp⟩) trivial ?_
              try simp only [Act.put]
              refine wpAnyH_take (i := 8) (v := .string (str s)) rfl (by kernel_rfl) (by kernel_rfl) (by kernel_rfl) (fun _ _ _ h => h) (Or.inl ⟨by kernel_rfl, fun w _ => by go_simp⟩) trivial ?_
              try simp only [Act.put]
              refine wpAnyH_take (i := 9) (v := .int .i64 (j : Int)) rfl (by kernel_rfl) (by kernel_rfl) (by kernel_rfl) (fun _ _ _ h => h) (Or.inl ⟨by kernel_rfl, fun w _ => by go_simp⟩) trivial ?_
              try simp only [Act.put]
              refine wpAnyH_take (i := 10) (v := .int .u8 (c.toNat : Int)) rfl (by kernel_rfl) (by kernel_rfl) (by kernel_rfl) (fun _ _ _ h => h) (Or.inl ⟨by kernel_rfl, fun w _ => by go_simp⟩) trivial ?_
              try simp only [Act.put]
              refine wpAnyH_ready (rs := [11]) (by kernel_rfl) (by simp) ?_
              refine AllReadyH.cons rfl (fun K hK => ?_) AllReadyH.nil
              go_simp
              go_at_call 53
              refine (isDigit53 c _).mono ?_
              rintro e w1 ⟨rfl, rfl⟩
              refine hK.out _ _ trivial (fun _ => ?_)
              clear hK K
              try simp only [Act.put, List.setIfInBounds_toArray, List.set_cons_zero, List.set_cons_succ]
              refine wpAnyH_take (i := 12) (v := .bool (isDig c)) rfl (by kernel_rfl) (by kernel_rfl) (by kernel_rfl) (fun _ _ _ h => h) (Or.inl ⟨by kernel_rfl, fun w _ => by go_simp⟩) trivial ?_
              try simp only [Act.put, List.setIfInBounds_toArray]
              refine wpAnyH_ready (rs := [13]) (by kernel_rfl) (by simp) ?_
              refine AllReadyH.cons rfl (fun K hK => ?_) AllReadyH.nil
              go_simp
              go_at_call 54
              refine (H54.out (isDig c) _).mono ?_
              rintro e w1 ⟨rfl, rfl⟩
              refine hK.out _ _ trivial (fun _ => ?_)
              clear hK K
              try simp only [Act.put, List.setIfInBounds_toArray, List.set_cons_zero, List.set_cons_succ]
              refine wpAnyH_take (i := 14) (v := .agg #[.string (str pre), .string (str (nv cur (isDig c))), .bool false]) rfl (by kernel_rfl) (by kernel_rfl) (by kernel_rfl) (fun _ _ _ h => h) (Or.inl ⟨by kernel_rfl, fun w _ => by go_simp⟩) trivial ?_
              try simp only [Act.put, List.setIfInBounds_toArray]
              refine wpAnyH_ready (rs := [15]) (by kernel_rfl) (by simp) ?_
              refine AllReadyH.cons rfl (fun K hK => ?_) AllReadyH.nil
              go_simp
              refine hK.out _ _ trivial (fun _ => ?_)
              clear hK K
              try simp only [Act.put, List.setIfInBounds_toArray, List.set_cons_zero, List.set_cons_succ]
              refine wpAnyH_ready (rs := [16]) (by kernel_rfl) (by simp) ?_
              refine AllReadyH.cons rfl (fun K hK => ?_) AllReadyH.nil
              refine step_append_lies _ (by rfl) (.tmp 68) (.tmp 83) 28 (by rfl) wo.heap.size 40 i40 z40 3 40 Tryz.underlying28 hi40 hz40 hs40 hb40 hc40 (by decide) ov done.length (tcs done) (by rfl) (HT9.out.alloc _) ⟨w9.heap.size, 0, none⟩ 1 1 [sv pre, sv (nv cur (isDig c)), .bool false] (by rfl) rfl (World.news_of_block (cs := #[sv pre, sv (nv cur (isDig c)), .bool false]) (t := 40) (fr := (0, 0)) (heap_alloc_new _ _)) (by intro u hu; simp at hu; rcases hu with rfl | rfl | rfl <;> rfl) (by decide) (by unfold maxLen; omega) (by omega) (by simp; omega) _ rfl ?_
              intro g cap w2 hown2 hgrow2 hat2 hlt2
              refine hK.out _ _ trivial (fun _ => ?_)
              clear hK K
              try simp only [Act.put, List.setIfInBounds_toArray]
              refine wpAnyH_take (i := 17) (v := .slice (some ⟨g, 0, none⟩) (done.length + 1) cap) rfl (by kernel_rfl) (by kernel_rfl) (by kernel_rfl) (fun _ _ _ h => h) (Or.inl ⟨by kernel_rfl, fun w _ => by go_simp⟩) trivial ?_
              try simp only [Act.put]
              refine wpAnyH_done (by kernel_rfl) ?_ _
              obtain ⟨HT2, HB2⟩ := toks_more HT9.out (HB9.out.drew.alloc hsz9 _) hown2 hgrow2
              clear hown2 hgrow2 hat2 hlt2
              go_wp2_with fail
              go_roundw
              case rel => exact ⟨_, _, _, [45], j, j + 1, done ++ [⟨pre, nv cur (isDig c), false⟩], rfl, rfl, rfl, rfl, rfl, by go_num, by omega, by omega, by rw [List.length_append]; simp; omega, HT2, HB2, Lib.hid (.inl HN.out)⟩
              case measure => simp [intOf]; omega
          · have hfe : fr = j := by omega
            have HN := Lib.hid (atS_go HAT.out HC.out hmk (.inl hfe))
            clear hmk
            go_wp2_with fail
            go_quiet (fail)
            go_wp2_with fail
            go_roundw
            case rel => exact ⟨_, _, _, pre, fr, j + 1, done, rfl, rfl, rfl, rfl, rfl, by go_num, by omega, by omega, by omega, HT, Lib.hid (below_drewN' HB.out _), Lib.hid (.inl HN.out)⟩
            case measure => simp [intOf]; omega
end Go.Proofs.Tz
