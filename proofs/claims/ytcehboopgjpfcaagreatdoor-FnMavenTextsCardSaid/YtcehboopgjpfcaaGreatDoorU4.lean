/- Printing numbers of at most 63 words. -/
import Derived.Test.YtcehboopgjpfcaaGreatDoorU3
import Derived.Deep.RegionHeld3
import Derived.Deep.CutRange
/- Plain steps of convertWords with a table of divisors. -/
namespace Go.Proofs.Mv
theorem fixd_join {n a b : Nat} : fixd a (n / 10 ^ b) ++ fixd b n = fixd (a + b) n := (fixd_add a b n).symm
theorem small_rem {ws : List Nat} (_hw : Ws ws) (hn : Nrm ws) (h : val ws < 10 ^ nd 0) : ws.length ≤ 8 := by
  by_cases e : ws = []
  · rw [e]; simp
  · have h1 := val_pos_of_nrm hn e
    have h2 : (10 : Nat) ^ nd 0 < WB ^ 8 := by decide +kernel
    have h3 : ws.length - 1 < 8 := (Nat.pow_lt_pow_iff_right (show 1 < WB by unfold WB; omega)).1 (Nat.lt_of_le_of_lt h1 (Nat.lt_trans h h2))
    clear h1 h2 h
    omega
/-- The bounds of a number of which the top word is known. -/
theorem bits_bounds {ws : List Nat} {n t : Nat} (hw : Ws ws) (hl : ws.length = n + 1) (ht : ws[n]? = some t) (ht0 : t ≠ 0) : 2 ^ (64 * n + Lib.bitLen t - 1) ≤ val ws ∧ val ws < 2 ^ (64 * n + Lib.bitLen t) ∧ 1 ≤ Lib.bitLen t := by
  have htw := hw t (List.mem_of_getElem? ht)
  obtain ⟨g1, g2, g3, g4⟩ := Tz.blen_bounds ht0 htw
  have h1 := val_split ws (j := n) (by omega)
  have h2 := val_lt (hw.take n)
  rw [List.length_take, Nat.min_eq_left (by omega)] at h2
  have hz : ws.drop (n + 1) = [] := List.drop_eq_nil_of_le (by omega)
  rw [val_drop ht, hz, val_nil] at h1
  simp only [Nat.mul_zero, Nat.add_zero] at h1
  have hW : WB ^ n = 2 ^ (64 * n) := by rw [Nat.pow_mul]; rfl
  refine ⟨?_, ?_, g1⟩
  · rw [h1, show 64 * n + Lib.bitLen t - 1 = 64 * n + (Lib.bitLen t - 1) by omega, Nat.pow_add, ← hW]
    exact Nat.le_trans (Nat.mul_le_mul_left _ g3) (Nat.le_add_left _ _)
  · rw [h1, Nat.pow_add, ← hW]
    have := Nat.mul_le_mul_left (WB ^ n) (show t + 1 ≤ 2 ^ Lib.bitLen t by omega)
    rw [Nat.mul_add, Nat.mul_one] at this
    omega
end Go.Proofs.Mv
namespace Go.Proofs.Tz
open Go.RowKit Mv

theorem put_before {cs us vs : List Value} {off : Nat} (h : off + vs.length + us.length ≤ cs.length) : put (put cs (off + vs.length) us) off vs = put cs off (vs ++ us) := by
  have hp : (put cs (off + vs.length) us).length = cs.length := put_length (by omega)
  apply List.ext_getElem?
  intro i
  by_cases h1 : i < off
  · rw [put_get_lo (by omega) h1, put_get_lo (by omega) (by omega), put_get_lo (by omega) h1]
  · by_cases h2 : i < off + vs.length
    · obtain ⟨t, rfl⟩ : ∃ t, i = off + t := ⟨i - off, by omega⟩
      rw [put_get_in (by omega) (by omega), put_get_in (by omega) (by rw [List.length_append]; omega), List.getElem?_append_left (by omega)]
    · by_cases h3 : i < off + vs.length + us.length
      · obtain ⟨t, rfl⟩ : ∃ t, i = off + vs.length + t := ⟨i - off - vs.length, by omega⟩
        rw [put_get_hi (by omega) (by omega), put_get_in (by omega) (by omega)]
        have := put_get_in (cs := cs) (vs := vs ++ us) (off := off) (i := vs.length + t) (by omega) (by rw [List.length_append]; omega)
        rw [← Nat.add_assoc] at this
        rw [this, List.getElem?_append_right (by omega), Nat.add_sub_cancel_left]
      · rw [put_get_hi (by omega) (by omega), put_get_hi (by omega) (by omega), put_get_hi (by omega) (by rw [List.length_append]; omega)]
theorem nrm_last {ws : List Nat} {n t : Nat} (hn : Nrm ws) (hl : ws.length = n + 1) (ht : ws[n]? = some t) : t ≠ 0 := by
  have hsp : ws = ws.take n ++ [t] := by
    have := List.take_append_getElem (l := ws) (i := n) (by omega)
    rw [List.getElem?_eq_getElem (by omega)] at ht
    injection ht with ht
    rw [ht, List.take_of_length_le (by omega : ws.length ≤ n + 1)] at this
    exact this.symm
  rw [hsp] at hn
  exact hn.top
def sliceLen : Value → Nat
  | .slice _ n _ => n
  | _ => 0
/-- What convertWords does with a table of L entries. -/
def ConvSaid (L : Nat) : Prop := ∀ (R : Nat → Prop) (st bq cq bs os ls capS bt k capT : Nat) (T : List Value) (be ce : Nat → Nat) (ws : List Nat) (content : List Value) (w : World),
  Arr w bt 196 T → Ents w T k k be ce → L ≤ k → k ≤ 3 → k ≤ capT → Stk0 w st (fun j => R j ∨ j = bq ∨ j = bs) → (∀ j, R j → j < w.heap.size) → ¬ R bq → ¬ R bs → bq ≠ bs → R bt → (∀ e, e < k → R (be e)) → R 8 → R 15 →
  w.cell? ⟨8, 0, none⟩ = some (.int .i64 8) → w.cell? ⟨15, 0, none⟩ = some (.int .i64 40) → Hold w bq cq ws → Ws ws → Nrm ws → ws.length ≤ 70 → (L = 0 → ws.length ≤ 8) → Arr w bs 5 content → os + ls ≤ content.length → ls ≤ 1000000 → ls ≤ capS → val ws < 10 ^ ls →
  Calls Tryz.prog 122 #[.slice (some ⟨bq, 0, none⟩) ws.length cq, .pointer (some ⟨st, 0, none⟩), .slice (some ⟨bs, os, none⟩) ls capS, .int .u64 10, .int .i64 19, .int .u64 10000000000000000000, .slice (some ⟨bt, 0, none⟩) L capT] w fun e w' =>
    e = .returned (.tuple #[]) ∧ Arr w' bs 5 (put content os (bts (fixd ls (val ws)))) ∧ Only (fun j => ¬ R j) w w' ∧ Stk0 w' st (fun j => R j ∨ j = bq ∨ j = bs) ∧ ∃ cs, Arr w' bq 160 cs ∧ cs.length = cq

def CRel (R : Nat → Prop) (w : World) (st bq cq bs os ls : Nat) (ws : List Nat) (content : List Value) (ws' : List Nat) (ls' : Nat) (rv : Value) (wr : World) : Prop :=
  Hold wr bq cq ws' ∧ (Ws ws' ∧ Nrm ws' ∧ ws'.length ≤ 70 ∧ val ws' < 10 ^ ls' ∧ val ws' = val ws / 10 ^ (ls - ls')) ∧ (ZOk wr rv ∧ (∀ b, rv.ownBlock = some b → ¬ R b ∧ b ≠ bq ∧ b ≠ bs)) ∧ Stk0 wr st (fun j => R j ∨ j = bq ∨ j = bs ∨ rv.ownBlock = some j) ∧ Arr wr bs 5 (put content (os + ls') (bts (fixd (ls - ls') (val ws)))) ∧ Only (fun j => ¬ R j) w wr
theorem Stk0.drewN {w : World} {st : Nat} {R : Nat → Prop} (h : Stk0 w st R) (n : Nat) : Stk0 (w.drewN n) st R := h.below ((Below.refl _ _).trans ⟨rfl, rfl, rfl, Nat.le_refl _, fun _ _ => rfl⟩)
theorem CRel.drew {R : Nat → Prop} {w wr wz : World} {st bq cq bs os ls : Nat} {ws : List Nat} {content : List Value} {ws' : List Nat} {ls' : Nat} {rv : Value} (h : CRel R w st bq cq bs os ls ws content ws' ls' rv wr) (hd : Drew wr wz) : CRel R w st bq cq bs os ls ws content ws' ls' rv wz := by
  obtain ⟨q, rfl⟩ := hd
  obtain ⟨h1, h2, h3, h4, h5, h6⟩ := h
  exact ⟨h1.drewN q, h2, ⟨h3.1.drewN q, h3.2⟩, h4.drewN q, h5.drewN q, h6.drewN q⟩
theorem Ents.keep {w w' : World} {T : List Value} {k i : Nat} {be ce : Nat → Nat} (h : Ents w T k i be ce) (hk : ∀ e, e < i → w'.heap[be e]? = w.heap[be e]?) : Ents w' T k i be ce :=
  ⟨h.len, h.num, h.rest, fun e he => by obtain ⟨vs, v1, v2⟩ := h.hold e he; exact ⟨vs, v1.keep (hk e he), v2⟩⟩
theorem rem_len {ws : List Nat} {e : Nat} (_hw : Ws ws) (hn : Nrm ws) (he : e < 3) (h : val ws < 10 ^ nd e) : ws.length ≤ nw e := by
  by_cases e0 : ws = []
  · rw [e0]; simp
  · have h1 := val_pos_of_nrm hn e0
    have h2 := (nd0_facts e he).2.1
    have h3 : ws.length - 1 < nw e := (Nat.pow_lt_pow_iff_right (show 1 < WB by unfold WB; omega)).1 (Nat.lt_of_le_of_lt h1 (Nat.lt_trans h h2))
    clear h1 h2 h
    omega
theorem len_mono {us vs : List Nat} (hu : Ws us) (_hv : Ws vs) (hn : Nrm vs) (h : val vs ≤ val us) : vs.length ≤ us.length := by
  by_cases e0 : vs = []
  · rw [e0]; simp
  · have h1 := val_pos_of_nrm hn e0
    have h2 := val_lt hu
    have h3 : vs.length - 1 < us.length := (Nat.pow_lt_pow_iff_right (show 1 < WB by unfold WB; omega)).1 (Nat.lt_of_le_of_lt h1 (Nat.lt_of_le_of_lt h h2))
    clear h1 h2 h
    omega
set_option maxHeartbeats 1000000 in
/-- A number is split by a divisor of the table; the lower part is written down. -/
theorem conv_rec {L : Nat} (IH : ∀ e, e < L → ConvSaid e) {R : Nat → Prop} {st bq cq bs os ls capS bt k capT : Nat} {T : List Value} {be ce : Nat → Nat} {ws : List Nat} {content : List Value} {w : World}
    (hT : Arr w bt 196 T) (hE : Ents w T k k be ce) (hLk : L ≤ k) (hk3 : k ≤ 3) (hkT : k ≤ capT) (hR : ∀ j, R j → j < w.heap.size) (hnq : ¬ R bq) (hns : ¬ R bs) (hqs : bq ≠ bs) (hbt : R bt) (hbe : ∀ e, e < k → R (be e)) (r8 : R 8) (r15 : R 15)
    (c8 : w.cell? ⟨8, 0, none⟩ = some (.int .i64 8)) (c15 : w.cell? ⟨15, 0, none⟩ = some (.int .i64 40)) (hos : os + ls ≤ content.length) (_hls : ls ≤ 1000000) (hcapS : ls ≤ capS)
    {ws' : List Nat} {ls' : Nat} {rv : Value} {wz : World} (hl' : ls' ≤ ls) (H : CRel R w st bq cq bs os ls ws content ws' ls' rv wz) {J : Nat} (hJ : J < L) (hle : 10 ^ nd J ≤ val ws') :
    Calls Tryz.prog 150 #[.slice (some ⟨bq, 0, none⟩) ws'.length cq, .pointer (some ⟨st, 0, none⟩), rv, .slice (some ⟨bq, 0, none⟩) ws'.length cq, .slice (some ⟨be J, 0, none⟩) (nw J) (ce J)] wz fun e w2 =>
      ∃ (br cr : Nat) (qs rs : List Nat) (h : Nat), e = .returned (.tuple #[.slice (some ⟨bq, 0, none⟩) qs.length cq, .slice (some ⟨br, 0, none⟩) rs.length cr]) ∧ ls' = h + nd J ∧ w2.cell? ⟨bt, J * 3 + 2, none⟩ = some (.int .i64 (nd J : Nat)) ∧
        ∀ wd, Drew w2 wd → Calls Tryz.prog 122 #[.slice (some ⟨br, 0, none⟩) rs.length cr, .pointer (some ⟨st, 0, none⟩), .slice (some ⟨bs, os + h, none⟩) (nd J) (capS - h), .int .u64 10, .int .i64 19, .int .u64 10000000000000000000, .slice (some ⟨bt, 0, none⟩) J capT] wd fun e w3 =>
          e = .returned (.tuple #[]) ∧ CRel R w st bq cq bs os ls ws content qs h (.slice (some ⟨br, 0, none⟩) rs.length cr) w3 := by
  obtain ⟨H1, ⟨hw1, hw2, hw3, hw5, hw6⟩, ⟨H3, H3b⟩, H4, H5, H6⟩ := H
  obtain ⟨n1, n2, n3⟩ := hE.num J (by omega)
  obtain ⟨vs, v1, v2, v3, v4⟩ := hE.hold J (by omega)
  have hgl : ∀ j, R j → wz.heap[j]? = w.heap[j]? := fun j hj => H6.block j (hR j hj) (fun h => h hj)
  have hRz : ∀ j, R j → j < wz.heap.size := fun j hj => Nat.lt_of_lt_of_le (hR j hj) H6.size
  have v1z : Hold wz (be J) (ce J) vs := v1.keep (hgl _ (hbe J (by omega)))
  have hdv := div_tab (fun j => R j ∨ j = bq ∨ j = bs ∨ rv.ownBlock = some j) st bq cq (be J) (ce J) J rv ws' vs wz
    (fun w'' ho => by
      have h1 : Only (fun j => ¬ R j) w w'' := H6.trans (ho.mono fun j hj => by
        rcases hj with hj | hj | hj
        · exact fun h => hj (.inl h)
        · rw [hj]; exact hnq
        · exact (H3b j hj).1)
      exact (World.cell?_of_block (h1.block 15 (hR 15 r15) (fun h => h r15))).trans c15)
    H4 (fun j hj => by
      rcases hj with hj | hj | hj | hj
      · exact hRz j hj
      · rw [hj]; exact H1.lt
      · rw [hj]; exact H5.lt
      · exact H3.lt hj)
    (.inr (.inl rfl)) (.inl (hbe J (by omega))) H3 (fun b hb => .inr (.inr (.inr hb))) (fun h => (H3b _ h).2.1 rfl) (fun h => (H3b _ h).1 (hbe J (by omega))) (fun h => hnq (h ▸ hbe J (by omega))) H1 v1z (by omega) (by omega) hw1 hw2 v2 v3 v4 (by rw [v4]; exact hle)
  refine hdv.mono ?_
  rintro e w2 ⟨br, cr, qs, rs, rfl, f1, f2, f3, f4, f5, f6, f7, f8, f9, f10, f11, f12⟩
  have hnl : nd J < ls' := (Nat.pow_lt_pow_iff_right (show 1 < 10 by omega)).1 (Nat.lt_of_le_of_lt hle hw5)
  obtain ⟨h, rfl⟩ : ∃ h, ls' = h + nd J := ⟨ls' - nd J, by omega⟩
  rw [v4] at f7 f8
  have o2 : Only (fun j => ¬ R j) w w2 := H6.trans (f11.mono fun j hj => by
    rcases hj with hj | hj | hj
    · exact fun h => hj (.inl h)
    · rw [hj]; exact hnq
    · exact (H3b j hj).1)
  have hbr : ¬ R br ∧ br ≠ bs := by
    rcases f9 with f9 | f9
    · exact ⟨(H3b br f9).1, (H3b br f9).2.2⟩
    · exact ⟨fun h => by have := hRz br h; omega, fun h => by have := H5.lt; omega⟩
  have hrl : val rs < 10 ^ nd J := by rw [f8]; exact Nat.mod_lt _ (Nat.pow_pos (by omega))
  have hrn := rem_len f5 f6 (show J < 3 by omega) hrl
  have hnwJ := nw_le J
  have hndJ := nd_le J
  have hql := len_mono hw1 f3 f4 (by rw [f7]; exact Nat.div_le_self _ _)
  have hg2 : ∀ j, R j → w2.heap[j]? = w.heap[j]? := fun j hj => o2.block j (hR j hj) (fun h => h hj)
  have hT2 : Arr w2 bt 196 T := (hg2 bt hbt).trans hT
  have H5b : Arr w2 bs 5 (put content (os + (h + nd J)) (bts (fixd (ls - (h + nd J)) (val ws)))) := H5.only f11 (fun hj => by
    rcases hj with hj | hj | hj
    · exact hj (.inr (.inr (.inl rfl)))
    · exact hqs hj.symm
    · exact (H3b _ hj).2.2 rfl)
  have hcl : (put content (os + (h + nd J)) (bts (fixd (ls - (h + nd J)) (val ws)))).length = content.length := put_length (by rw [bts_length, fixd_length]; omega)
  have hlt2 : ∀ j, R j ∨ j = bq → j < w2.heap.size := fun j hj => hj.elim (fun hj => Nat.lt_of_lt_of_le (hR j hj) o2.size) (fun hj => by rw [hj]; exact f1.lt)
  refine ⟨br, cr, qs, rs, h, rfl, rfl, hT2.cell n3, ?_⟩
  rintro wd ⟨q, rfl⟩
  have hrec := IH J hJ (fun j => R j ∨ j = bq) st br cr bs (os + h) (nd J) (capS - h) bt k capT T be ce rs _ (w2.drewN q) (hT2.drewN q) (hE.keep fun e he => hg2 _ (hbe e he)) (by omega) hk3 hkT
    ((f12.mono fun j _ hj => by
      rcases hj with (hj | hj) | hj | hj
      · exact .inl (.inl hj)
      · exact .inl (.inr (.inl hj))
      · exact .inr hj
      · exact .inl (.inr (.inr (.inl hj)))).drewN q)
    hlt2 (fun hj => hj.elim hbr.1 f10) (fun hj => hj.elim hns (fun h => hqs h.symm)) hbr.2 (.inl hbt) (fun e he => .inl (hbe e he)) (.inl r8) (.inl r15)
    ((World.cell?_of_block (hg2 8 r8)).trans c8) ((World.cell?_of_block (hg2 15 r15)).trans c15) (f2.drewN q) f5 f6 (by omega) (fun hJ0 => by subst hJ0; exact small_rem f5 f6 hrl) (H5b.drewN q) (by rw [hcl]; omega) (by omega) (by omega) hrl
  refine hrec.mono ?_
  rintro e w3 ⟨rfl, g1, g2, g3, cs, g4, g5⟩
  have o3 : Only (fun j => ¬ R j) w w3 := (o2.drewN q).trans (g2.mono fun j hj h => hj (.inl h))
  refine ⟨rfl, (f1.drewN q).only g2 (fun hj => hj (.inr rfl)), ⟨f3, f4, by omega, ?_, ?_⟩, ⟨?_, ?_⟩, ?_, ?_, o3⟩
  · rw [f7]
    exact Nat.div_lt_of_lt_mul (by rw [← Nat.pow_add, Nat.add_comm]; exact hw5)
  · rw [f7, hw6, Nat.div_div_eq_div_mul, ← Nat.pow_add]
    congr 2
    omega
  · exact .inr ⟨br, rs.length, cr, cs, rfl, g4, g5, f2.fit⟩
  · intro b hb
    have hb : br = b := by simpa [Value.ownBlock] using hb
    rw [← hb]
    exact ⟨hbr.1, f10, hbr.2⟩
  · refine g3.mono fun j _ hj => ?_
    rcases hj with hj | hj | hj | hj
    · exact .inl (.inl hj)
    · exact .inl (.inr hj)
    · exact .inr (.inr hj)
    · exact .inr (.inl (by have hb : br = j := by simpa [Value.ownBlock] using hj
                           exact hb.symm))
  · rw [show os + (h + nd J) = os + h + (bts (fixd (nd J) (val rs))).length by rw [bts_length, fixd_length]; omega, put_before (by rw [bts_length, fixd_length, bts_length, fixd_length]; omega), ← bts_append, f8, fixd_mod, hw6, fixd_join, show nd J + (ls - (h + nd J)) = ls - h by omega] at g1
    exact g1
end Go.Proofs.Tz

/- Contract of convertWords with a table of divisors. -/
namespace Go.Proofs.Tz
open Go.RowKit Mv

theorem nd_pos (e : Nat) : 0 < nd e := by
  match e with
  | 0 => decide
  | 1 => decide
  | e + 2 => show 0 < 616; decide
set_option maxHeartbeats 8000000 in
set_option maxRecDepth 100000 in
theorem conv_step (L : Nat) (IH : ∀ e, e < L → ConvSaid e) : ConvSaid L := by
  intro R st bq cq bs os ls capS bt k capT T be ce ws content w hT hE hLk hk3 hkT hS hR hnq hns hqs hbt hbe r8 r15 c8 c15 hQ hws hnr hlen h0 hA hos hls hcapS hv
  have HT := Lib.hid hT
  have HE := Lib.hid hE
  have HS := Lib.hid hS
  have HR := Lib.hid (And.intro hR (And.intro hnq (And.intro hns (And.intro hqs (And.intro hbt (And.intro hbe (And.intro r8 r15)))))))
  have HC := Lib.hid (And.intro c8 c15)
  have HQ := Lib.hid hQ
  have HW := Lib.hid (And.intro hws (And.intro hnr (And.intro hlen (And.intro h0 hv))))
  have HA := Lib.hid hA
  have HIH := Lib.hid IH
  clear hT hE hS hR hnq hns hqs hbt hbe r8 r15 c8 c15 hQ hws hnr hlen h0 hv hA IH
  go_enter Tryz.func122, Tryz.ntmps122
  go_wp2_with fail
  go_loopw [0, 2, 14, 15] (fun q s r ix wr => ∃ (ws' : List Nat) (ls' i : Nat) (rv : Value), q = .slice (some ⟨bq, 0, none⟩) ws'.length cq ∧ s = .slice (some ⟨bs, os, none⟩) ls' capS ∧ r = rv ∧ ix = .int .i64 ((i : Int) - 1) ∧ i ≤ L ∧ ls' ≤ ls ∧
      Hid (i = 0 → ws'.length ≤ 8) ∧ Hid (CRel R w st bq cq bs os ls ws content ws' ls' rv wr)) (fun _ s _ _ _ => sliceLen s)
  case atStart =>
    refine ⟨ws, ls, L, .slice none 0 0, rfl, rfl, rfl, by go_num, Nat.le_refl _, Nat.le_refl _, Lib.hid HW.out.2.2.2.1, Lib.hid ⟨HQ.out, ⟨HW.out.1, HW.out.2.1, HW.out.2.2.1, HW.out.2.2.2.2, by simp⟩, ⟨ZOk.nil _, fun b e => by simp [Value.ownBlock] at e⟩, HS.out.mono fun j _ h => ?_, ?_, Only.refl _ _⟩⟩
    · rcases h with h | h | h | h
      · exact .inl h
      · exact .inr (.inl h)
      · exact .inr (.inr h)
      · simp [Value.ownBlock] at h
    · rw [Nat.sub_self, fixd, show bts [] = [] from rfl, put_nil]; exact HA.out
  case round =>
    obtain ⟨ws', ls', i, rv, rfl, rfl, rfl, rfl, hiL, hl', H0, HCR⟩ := hrel
    obtain ⟨H1, H2, H3, H4, H5, H6⟩ := HCR.out
    replace H1 := Lib.hid H1
    replace H2 := Lib.hid (And.intro H2.1 (And.intro H2.2.1 (And.intro H2.2.2.1 (And.intro H0.out H2.2.2.2))))
    replace H3 := Lib.hid H3
    replace H4 := Lib.hid H4
    replace H5 := Lib.hid H5
    replace H6 := Lib.hid H6
    obtain ⟨hR, hnq, hns, hqs, hbt, hbe, r8, r15⟩ := HR.out
    have hgl : ∀ j, R j → wr.heap[j]? = w.heap[j]? := fun j hj => H6.out.block j (hR j hj) (fun h => h hj)
    have g8 : wr.cell? ⟨8, 0, none⟩ = some (.int .i64 8) := (World.cell?_of_block (hgl 8 r8)).trans HC.out.1
    by_cases h8 : 8 < ws'.length
    · obtain ⟨i1, rfl⟩ : ∃ i1, i = i1 + 1 := ⟨i - 1, by have := H2.out.2.2.2.1; omega⟩
      obtain ⟨hw1, hw2, hw3, _, hw5, hw6⟩ := H2.out
      obtain ⟨n, hn⟩ : ∃ n, ws'.length = n + 1 := ⟨ws'.length - 1, by omega⟩
      obtain ⟨t, ht⟩ : ∃ t, ws'[n]? = some t := ⟨_, List.getElem?_eq_getElem (by omega)⟩
      have ht0 : t ≠ 0 := nrm_last hw2 hn ht
      have htw : t < WB := hw1 t (List.mem_of_getElem? ht)
      obtain ⟨mb1, mb2, mb3⟩ := bits_bounds hw1 hn ht ht0
      have hbl := bitLen_any bq 0 n cq t wr ht0 htw (by rw [Nat.zero_add]; exact H1.out.cell ht) (by omega) (by have := H1.out.fit.1; omega)
      rw [← hn] at hbl
      obtain ⟨mx, hmx⟩ : ∃ mx, mx = 64 * n + Lib.bitLen t := ⟨_, rfl⟩
      rw [← hmx] at hbl mb1 mb2
      have hmx1 : 513 ≤ mx := by omega
      have hmx2 : mx ≤ 5000 := by have := (blen_bounds ht0 htw).2.1; omega
      have hTr : Arr wr bt 196 T := (hgl bt hbt).trans HT.out
      have hcell : ∀ e, e < L → wr.cell? ⟨bt, e * 3, none⟩ = some (.slice (some ⟨be e, 0, none⟩) (nw e) (ce e)) ∧ wr.cell? ⟨bt, e * 3 + 1, none⟩ = some (.int .i64 (nb e : Nat)) ∧ wr.cell? ⟨bt, e * 3 + 2, none⟩ = some (.int .i64 (nd e : Nat)) := fun e he => by
        obtain ⟨n1, n2, n3⟩ := HE.out.num e (by omega)
        exact ⟨hTr.cell n1, hTr.cell n2, hTr.cell n3⟩
      have hold : ∀ e, e < L → ∃ vs, Hold wr (be e) (ce e) vs ∧ Ws vs ∧ Nrm vs ∧ val vs = 10 ^ nd e := fun e he => by
        obtain ⟨vs, v1, v2⟩ := HE.out.hold e (by omega)
        exact ⟨vs, v1.keep (hgl _ (hbe e (by omega))), v2⟩
      have hrec := fun (wz : World) (hd : Drew wr wz) (J : Nat) (hJ : J < L) (hle : 10 ^ nd J ≤ val ws') => conv_rec HIH.out HT.out HE.out hLk hk3 hkT hR hnq hns hqs hbt hbe r8 r15 HC.out.1 HC.out.2 hos hls hcapS hl' (HCR.out.drew hd) hJ hle
      have HREC := Lib.hid hrec
      clear hrec
      have HBL := Lib.hid hbl
      have HCE := Lib.hid hcell
      have HTR := Lib.hid hTr
      have HHO := Lib.hid hold
      have HMB := Lib.hid (And.intro mb1 mb2)
      have b8 : (8 : Int) < (ws'.length : Int) := by omega
      clear hbl hcell hTr hold mb1 mb2 mb3 hw1 hw2 hw3 hw5 hw6 ht ht0 htw hgl hR hnq hns hqs hbt hbe r8 r15 hmx hn
      go_wp2_with fail
      (with_reducible refine HBL.out.mono ?_)
      rintro e w1 ⟨rfl, rfl⟩
      clear g8
      go_wp2_with fail
      obtain ⟨wq, rfl⟩ : ∃ wq : World, wq = wr := ⟨_, rfl⟩
      go_loopw [15] (fun ix wr2 => ∃ i2 : Nat, i2 ≤ i1 ∧ ix = .int .i64 (i2 : Int) ∧ wr2 = wq) (fun ix _ => (intOf ix).toNat)
      case atStart => exact ⟨i1, Nat.le_refl _, by go_num, rfl⟩
      case round =>
        obtain ⟨i2, hi2, rfl, rfl⟩ := hrel
        by_cases hdn : 0 < i2 ∧ mx / 2 < nb (i2 - 1)
        · obtain ⟨d1, d2⟩ := hdn
          obtain ⟨i3, rfl⟩ : ∃ i3, i2 = i3 + 1 := ⟨i2 - 1, by omega⟩
          rw [Nat.add_sub_cancel] at d2
          have c1 := (HCE.out i3 (by omega)).2.1
          have d2i : (mx : Int) / 2 < ((nb i3 : Nat) : Int) := by omega
          clear d2
          go_wp2_with fail
          go_roundw
          case rel => exact ⟨i3, by omega, by go_num, trivial⟩
          case measure => simp [intOf]
        · have hm : i2 = 0 ∨ nb (i2 - 1) ≤ mx / 2 := by omega
          obtain ⟨p1, p2, p3⟩ := chosen (show i2 < 3 by omega) hmx1 HMB.out.1 hm
          obtain ⟨vs, v1, v2, v3, v4⟩ := HHO.out i2 (by omega)
          have hcmp := natCmp_any _ _ vs ws' 0 0 _ v1.nat H1.out.nat v2 H2.out.1 v3 H2.out.2.1 (by have := v1.fit; omega) (by have := H2.out.2.2.1; omega)
          have hvl := nw_len (show i2 < 3 by omega) v2 v3 v4
          rw [hvl, v4] at hcmp
          have HCM := Lib.hid hcmp
          have HH := Lib.hid (And.intro p1 (And.intro p2 p3))
          clear hcmp v1 v2 v3 v4 hvl p1 p2 p3
          rcases Nat.eq_zero_or_pos i2 with h0 | h0
          · have hz : ¬ (0 : Int) < (i2 : Int) := by omega
            clear h0
            obtain ⟨cA0, cA1, cA2⟩ := HCE.out (i2) (by omega)
            by_cases hA : nb (i2) < mx
            · have HLE := Lib.hid (HH.out.1 hA)
              have dA : ¬ (mx : Int) ≤ ((nb (i2) : Nat) : Int) := by omega
              have HDR : Hid (Drew wr wr) := Lib.hid (Drew.refl wr)
              clear hA HCM
              go_wp2_with fail
              (with_reducible refine (HREC.out wr HDR.out (i2) (by omega) HLE.out).mono ?_)
              rintro e w2 ⟨br, cr, qs, rs, h, rfl, rfl, c2d, hcl⟩
              have HCL := Lib.hid (hcl _ ⟨1, rfl⟩)
              have y1 : (0 : Int) ≤ (h : Int) := by omega
              have y2 : (h : Int) ≤ (h : Int) + ((nd (i2) : Nat) : Int) := by omega
              have y3 : (h : Int).toNat = h := by omega
              have y4 : IntKind.i64.wrap ((h : Int) + ((nd (i2) : Nat) : Int) - ((nd (i2) : Nat) : Int)) = (h : Int) := by rw [IntKind.wrap_i64]; omega
              have y5 : ¬ capS = h := by have := nd_pos (i2); omega
              have y6 : h + nd (i2) - h = nd (i2) := by omega
              have y7 : (0 : Int) ≤ (((i2) : Nat) : Int) := by omega
              have y8 : (((i2) : Nat) : Int) ≤ (capT : Int) := by omega
              have y10 : (((i2) : Nat) : Int).toNat = (i2) := by omega
              have y11 : ¬ capT = 0 := by omega
              have y9 : (h : Int) ≤ (capS : Int) := by omega
              clear hcl HREC HBL HCE HHO HMB HH
              go_wp2_with fail
              first
                | go_region_held3 (fun _ => True) (first | trivial)
                    (first
                      | (go_at_call 122; refine HCL.out.mono ?_; rintro e w3 ⟨rfl, z1⟩; have Z1 := Lib.hid z1; clear z1)
                      | fail)
                | fail
              go_wp2_with fail
              go_roundw
              case rel => exact ⟨qs, h, (i2) + 1, _, rfl, rfl, rfl, by go_num, by omega, by omega, Lib.hid (fun h => by omega), Z1⟩
              case measure => have := nd_pos (i2); simp [sliceLen]; omega
            · have hB : mx ≤ nb (i2) := by omega
              have dA : (mx : Int) ≤ ((nb (i2) : Nat) : Int) := by omega
              by_cases hC : 10 ^ nd (i2) < val ws'
              · have HLE := Lib.hid (HH.out.2.2 hB hC)
                have hcv : cmpN (10 ^ nd (i2)) (val ws') = -1 := by rw [cmpN, if_pos hC]
                rw [hcv] at HCM
                clear hB hC hcv hA
                go_wp2_with fail
                (with_reducible refine HCM.out.mono ?_)
                rintro e w1 ⟨rfl, q1, rfl⟩
                have HDR : Hid (Drew wr (wr.drewN q1)) := Lib.hid ⟨q1, rfl⟩
                go_wp2_with fail
                (with_reducible refine (HREC.out _ HDR.out (i2) (by omega) HLE.out).mono ?_)
                rintro e w2 ⟨br, cr, qs, rs, h, rfl, rfl, c2d, hcl⟩
                have HCL := Lib.hid (hcl _ ⟨1, rfl⟩)
                have y1 : (0 : Int) ≤ (h : Int) := by omega
                have y2 : (h : Int) ≤ (h : Int) + ((nd (i2) : Nat) : Int) := by omega
                have y3 : (h : Int).toNat = h := by omega
                have y4 : IntKind.i64.wrap ((h : Int) + ((nd (i2) : Nat) : Int) - ((nd (i2) : Nat) : Int)) = (h : Int) := by rw [IntKind.wrap_i64]; omega
                have y5 : ¬ capS = h := by have := nd_pos (i2); omega
                have y6 : h + nd (i2) - h = nd (i2) := by omega
                have y7 : (0 : Int) ≤ (((i2) : Nat) : Int) := by omega
                have y8 : (((i2) : Nat) : Int) ≤ (capT : Int) := by omega
                have y10 : (((i2) : Nat) : Int).toNat = (i2) := by omega
                have y11 : ¬ capT = 0 := by omega
                have y9 : (h : Int) ≤ (capS : Int) := by omega
                clear hcl HREC HBL HCE HHO HMB HH
                go_wp2_with fail
                first
                  | go_region_held3 (fun _ => True) (first | trivial)
                      (first
                        | (go_at_call 122; refine HCL.out.mono ?_; rintro e w3 ⟨rfl, z1⟩; have Z1 := Lib.hid z1; clear z1)
                        | fail)
                  | fail
                go_wp2_with fail
                go_roundw
                case rel => exact ⟨qs, h, (i2) + 1, _, rfl, rfl, rfl, by go_num, by omega, by omega, Lib.hid (fun h => by omega), Z1⟩
                case measure => have := nd_pos (i2); simp [sliceLen]; omega
              · have hC2 : val ws' ≤ 10 ^ nd (i2) := by omega
                obtain ⟨t1, t2⟩ := HH.out.2.1 hB hC2
                omega
          · obtain ⟨i3, rfl⟩ : ∃ i3, i2 = i3 + 1 := ⟨i2 - 1, by omega⟩
            rw [Nat.add_sub_cancel] at hm
            have d2i : ¬ (mx : Int) / 2 < ((nb i3 : Nat) : Int) := by omega
            have c1 := (HCE.out i3 (by omega)).2.1
            obtain ⟨cA0, cA1, cA2⟩ := HCE.out (i3 + 1) (by omega)
            by_cases hA : nb (i3 + 1) < mx
            · have HLE := Lib.hid (HH.out.1 hA)
              have dA : ¬ (mx : Int) ≤ ((nb (i3 + 1) : Nat) : Int) := by omega
              have HDR : Hid (Drew wr wr) := Lib.hid (Drew.refl wr)
              clear hA HCM
              go_wp2_with fail
              (with_reducible refine (HREC.out wr HDR.out (i3 + 1) (by omega) HLE.out).mono ?_)
              rintro e w2 ⟨br, cr, qs, rs, h, rfl, rfl, c2d, hcl⟩
              have HCL := Lib.hid (hcl _ ⟨1, rfl⟩)
              have y1 : (0 : Int) ≤ (h : Int) := by omega
              have y2 : (h : Int) ≤ (h : Int) + ((nd (i3 + 1) : Nat) : Int) := by omega
              have y3 : (h : Int).toNat = h := by omega
              have y4 : IntKind.i64.wrap ((h : Int) + ((nd (i3 + 1) : Nat) : Int) - ((nd (i3 + 1) : Nat) : Int)) = (h : Int) := by rw [IntKind.wrap_i64]; omega
              have y5 : ¬ capS = h := by have := nd_pos (i3 + 1); omega
              have y6 : h + nd (i3 + 1) - h = nd (i3 + 1) := by omega
              have y7 : (0 : Int) ≤ ((i3 : Int) + 1) := by omega
              have y8 : ((i3 : Int) + 1) ≤ (capT : Int) := by omega
              have y10 : ((i3 : Int) + 1).toNat = (i3 + 1) := by omega
              have y11 : ¬ capT = 0 := by omega
              have y9 : (h : Int) ≤ (capS : Int) := by omega
              clear hcl HREC HBL HCE HHO HMB HH
              go_wp2_with fail
              first
                | go_region_held3 (fun _ => True) (first | trivial)
                    (first
                      | (go_at_call 122; refine HCL.out.mono ?_; rintro e w3 ⟨rfl, z1⟩; have Z1 := Lib.hid z1; clear z1)
                      | fail)
                | fail
              go_wp2_with fail
              go_roundw
              case rel => exact ⟨qs, h, (i3 + 1) + 1, _, rfl, rfl, rfl, by go_num, by omega, by omega, Lib.hid (fun h => by omega), Z1⟩
              case measure => have := nd_pos (i3 + 1); simp [sliceLen]; omega
            · have hB : mx ≤ nb (i3 + 1) := by omega
              have dA : (mx : Int) ≤ ((nb (i3 + 1) : Nat) : Int) := by omega
              by_cases hC : 10 ^ nd (i3 + 1) < val ws'
              · have HLE := Lib.hid (HH.out.2.2 hB hC)
                have hcv : cmpN (10 ^ nd (i3 + 1)) (val ws') = -1 := by rw [cmpN, if_pos hC]
                rw [hcv] at HCM
                clear hB hC hcv hA
                go_wp2_with fail
                (with_reducible refine HCM.out.mono ?_)
                rintro e w1 ⟨rfl, q1, rfl⟩
                have HDR : Hid (Drew wr (wr.drewN q1)) := Lib.hid ⟨q1, rfl⟩
                go_wp2_with fail
                (with_reducible refine (HREC.out _ HDR.out (i3 + 1) (by omega) HLE.out).mono ?_)
                rintro e w2 ⟨br, cr, qs, rs, h, rfl, rfl, c2d, hcl⟩
                have HCL := Lib.hid (hcl _ ⟨1, rfl⟩)
                have y1 : (0 : Int) ≤ (h : Int) := by omega
                have y2 : (h : Int) ≤ (h : Int) + ((nd (i3 + 1) : Nat) : Int) := by omega
                have y3 : (h : Int).toNat = h := by omega
                have y4 : IntKind.i64.wrap ((h : Int) + ((nd (i3 + 1) : Nat) : Int) - ((nd (i3 + 1) : Nat) : Int)) = (h : Int) := by rw [IntKind.wrap_i64]; omega
                have y5 : ¬ capS = h := by have := nd_pos (i3 + 1); omega
                have y6 : h + nd (i3 + 1) - h = nd (i3 + 1) := by omega
                have y7 : (0 : Int) ≤ ((i3 : Int) + 1) := by omega
                have y8 : ((i3 : Int) + 1) ≤ (capT : Int) := by omega
                have y10 : ((i3 : Int) + 1).toNat = (i3 + 1) := by omega
                have y11 : ¬ capT = 0 := by omega
                have y9 : (h : Int) ≤ (capS : Int) := by omega
                clear hcl HREC HBL HCE HHO HMB HH
                go_wp2_with fail
                first
                  | go_region_held3 (fun _ => True) (first | trivial)
                      (first
                        | (go_at_call 122; refine HCL.out.mono ?_; rintro e w3 ⟨rfl, z1⟩; have Z1 := Lib.hid z1; clear z1)
                        | fail)
                  | fail
                go_wp2_with fail
                go_roundw
                case rel => exact ⟨qs, h, (i3 + 1) + 1, _, rfl, rfl, rfl, by go_num, by omega, by omega, Lib.hid (fun h => by omega), Z1⟩
                case measure => have := nd_pos (i3 + 1); simp [sliceLen]; omega
              · have hC2 : val ws' ≤ 10 ^ nd (i3 + 1) := by omega
                obtain ⟨t1, t2⟩ := HH.out.2.1 hB hC2
                rw [Nat.add_sub_cancel] at t2
                have HLE := Lib.hid t2
                have hcv : ¬ cmpN (10 ^ nd (i3 + 1)) (val ws') < 0 := by unfold cmpN; split <;> (try split) <;> omega
                obtain ⟨cc, hcc⟩ : ∃ cc, cc = cmpN (10 ^ nd (i3 + 1)) (val ws') := ⟨_, rfl⟩
                rw [← hcc] at HCM hcv
                have hcv2 : (0 : Int) ≤ cc := by omega
                obtain ⟨cB0, cB1, cB2⟩ := HCE.out i3 (by omega)
                clear hB hC hC2 hcc hA t1 t2
                go_wp2_with fail
                (with_reducible refine HCM.out.mono ?_)
                rintro e w1 ⟨rfl, q1, rfl⟩
                have HDR : Hid (Drew wr (wr.drewN q1)) := Lib.hid ⟨q1, rfl⟩
                go_wp2_with fail
                (with_reducible refine (HREC.out _ HDR.out i3 (by omega) HLE.out).mono ?_)
                rintro e w2 ⟨br, cr, qs, rs, h, rfl, rfl, c2d, hcl⟩
                have HCL := Lib.hid (hcl _ ⟨1, rfl⟩)
                have y1 : (0 : Int) ≤ (h : Int) := by omega
                have y2 : (h : Int) ≤ (h : Int) + ((nd i3 : Nat) : Int) := by omega
                have y3 : (h : Int).toNat = h := by omega
                have y4 : IntKind.i64.wrap ((h : Int) + ((nd i3 : Nat) : Int) - ((nd i3 : Nat) : Int)) = (h : Int) := by rw [IntKind.wrap_i64]; omega
                have y5 : ¬ capS = h := by have := nd_pos i3; omega
                have y6 : h + nd i3 - h = nd i3 := by omega
                have y7 : (0 : Int) ≤ ((i3 : Nat) : Int) := by omega
                have y8 : ((i3 : Nat) : Int) ≤ (capT : Int) := by omega
                have y10 : ((i3 : Nat) : Int).toNat = i3 := by omega
                have y11 : ¬ capT = 0 := by omega
                have y9 : (h : Int) ≤ (capS : Int) := by omega
                clear hcl HREC HBL HCE HHO HMB HH
                go_wp2_with fail
                first
                  | go_region_held3 (fun _ => True) (first | trivial)
                      (first
                        | (go_at_call 122; refine HCL.out.mono ?_; rintro e w3 ⟨rfl, z1⟩; have Z1 := Lib.hid z1; clear z1)
                        | fail)
                  | fail
                go_wp2_with fail
                go_roundw
                case rel => exact ⟨qs, h, i3 + 1, _, rfl, rfl, rfl, by go_num, by omega, by omega, Lib.hid (fun h => by omega), Z1⟩
                case measure => have := nd_pos i3; simp [sliceLen]; omega
    · have b8 : ¬ ((8 : Int) < (ws'.length : Int)) := by omega
      have b8i : (ws'.length : Int) ≤ 8 := by omega
      obtain ⟨cz0, q1, q2, q3, q4, q5⟩ := H1.out
      obtain ⟨hw1, hw2, hw3, hw4, hw5, hw6⟩ := H2.out
      obtain ⟨cont, hcont⟩ : ∃ cont, cont = put content (os + ls') (bts (fixd (ls - ls') (val ws))) := ⟨_, rfl⟩
      have hcl : cont.length = content.length := by rw [hcont, put_length (by rw [bts_length, fixd_length]; omega)]
      have hA5 := H5.out
      rw [← hcont] at hA5
      obtain ⟨wl, rfl⟩ : ∃ wl, wl = ws' := ⟨_, rfl⟩
      obtain ⟨lm, rfl⟩ : ∃ lm, lm = ls' := ⟨_, rfl⟩
      have HCO := Lib.hid (show cont = put content (os + lm) (bts (fixd (ls - lm) (val ws))) ∧ cont.length = content.length ∧ val wl = val ws / 10 ^ (ls - lm) from ⟨hcont, hcl, hw6⟩)
      have HHD := Lib.hid (fun b cap ws cs w => (divW_all (show RecOk Y19 from rec_0) 1000) b cap ws cs w)
      have HO1 := H6
      have HS1 := H4
      clear HT HS HQ HC HA H0 HCR H1 H2 H3 H4 H5 H6
      have HQ := Lib.hid q1
      have HC := Lib.hid q2
      have HSUB := Lib.hid q4
      have HWS := Lib.hid hw1
      have HNR := Lib.hid hw2
      have HS := Lib.hid hA5
      have HV := Lib.hid hw5
      have hlen : wl.length ≤ 1000 := by omega
      have hlc : wl.length ≤ cq := by omega
      have hcb : cq ≤ 1000000000 := by omega
      have hos' : os + lm ≤ cont.length := by omega
      have HOL := Lib.hid hos
      have hls' : lm ≤ 1000000 := by omega
      have hne : bq ≠ bs := hqs
      obtain ⟨wq, rfl⟩ : ∃ wq : World, wq = wr := ⟨_, rfl⟩
      clear q1 q2 q3 q4 q5 hw1 hw2 hw3 hw4 hw5 hw6 hcont hcl hA5 hgl hR hnq hns hqs hbt hbe r8 r15 hos hls hcapS h8
      have hos := hos'
      have hls := hls'
      clear hos' hls'
      go_wp2_with fail
      clear g8
      go_loopw [0, 19] (fun q i wr => ∃ (t i0 : Nat) (wt : List Nat) (cz' : List Value), i0 ≤ lm ∧ q = .slice (some ⟨bq, 0, none⟩) wt.length cq ∧ i = .int .i64 (i0 : Int) ∧ Hid (lm - i0 = min (19 * t) lm) ∧ Hid (Arr wr bq 160 cz') ∧ Hid (cz'.length = cq) ∧ Hid (Sub cz' 0 wt) ∧
          Hid (wt.length ≤ wl.length ∧ Ws wt ∧ Nrm wt ∧ val wt = val wl / 10 ^ (19 * t)) ∧ Hid (Arr wr bs 5 (put cont (os + i0) (bts (fixd (lm - i0) (val wl))))) ∧ Hid (Only (fun k => k = bq ∨ k = bs) wq wr ∧ wr.heap.size = wq.heap.size)) (fun _ i _ => (intOf i).toNat)
      case atStart =>
        refine ⟨0, lm, wl, cz0, Nat.le_refl _, rfl, rfl, Lib.hid (by omega), HQ, HC, HSUB, Lib.hid ⟨Nat.le_refl _, HWS.out, HNR.out, by simp⟩, ?_, Lib.hid ⟨Only.refl _ _, rfl⟩⟩
        rw [show lm - lm = 0 by omega, fixd, show bts [] = [] from rfl, put_nil]
        exact HS
      case round =>
        obtain ⟨t, i0, wt, cz', hi, rfl, rfl, HT, H1, H2, H3, H4, H5, H6⟩ := hrel
        by_cases he : wt = []
        · subst he
          go_wp2_with fail
          have hz : val wl / 10 ^ (19 * t) = 0 := by have := H4.out.2.2.2; rw [val_nil] at this; exact this.symm
          have hvk : val wl < 10 ^ (lm - i0) := by
            rw [HT.out]
            by_cases c : 19 * t ≤ lm
            · rw [show min (19 * t) lm = 19 * t by omega]
              have := Nat.div_eq_zero_iff.1 hz
              rcases this with h | h
              · have : 0 < 10 ^ (19 * t) := Nat.pow_pos (by omega)
                omega
              · exact h
            · rw [show min (19 * t) lm = lm by omega]; exact HV.out
          have HVK := Lib.hid hvk
          clear hz hvk
          obtain ⟨wo, rfl⟩ : ∃ wo : World, wo = wr := ⟨_, rfl⟩
          go_loopw [19] (fun i wr2 => ∃ ii : Nat, ii ≤ i0 ∧ i = .int .i64 (ii : Int) ∧ Hid (Arr wr2 bs 5 (put cont (os + ii) (bts (fixd (lm - ii) (val wl))))) ∧ Hid (wo.grownBy wr2 (some bs) ∧ wr2.heap.size = wo.heap.size)) (fun i _ => (intOf i).toNat)
          case atStart => exact ⟨i0, Nat.le_refl _, rfl, H5, Lib.hid ⟨grownBy_refl _ _, rfl⟩⟩
          case round =>
            obtain ⟨ii, hii, rfl, L1, L2⟩ := hrel
            cases ii with
            | zero =>
              go_wp2_with fail
              go_end0
              have oq : Only (fun k => k = bq ∨ k = bs) wq _ := H6.out.1.of_grown L2.out.1 (.inr rfl)
              obtain ⟨hR, hnq, hns, hqs, hbt, hbe, r8, r15⟩ := HR.out
              have hst : Stk0 _ st (fun j => R j ∨ j = bq ∨ j = bs) := (HS1.out.only oq (fun k h => h.elim (fun h => .inr (.inl h)) (fun h => .inr (.inr (.inl h))))).mono (Q := fun j => R j ∨ j = bq ∨ j = bs) fun k _ h => h.elim .inl fun h => h.elim (fun h => .inr (.inl h)) fun h => .inr (.inr (.inl h))
              refine ⟨rfl, ?_, HO1.out.trans (oq.mono fun k h => by rcases h with h | h <;> rw [h] <;> assumption), hst, _, H1.out.other L2.out.1 (by simp; first | exact hqs | exact Ne.symm hqs), H2.out⟩
              have hfin := L1.out
              rw [Nat.add_zero, Nat.sub_zero, HCO.out.1, HCO.out.2.2] at hfin
              rw [show os + lm = os + (bts (fixd lm (val ws / 10 ^ (ls - lm)))).length by rw [bts_length, fixd_length], put_before (by rw [bts_length, fixd_length, bts_length, fixd_length]; have := HOL.out; omega), ← bts_append, fixd_join, show lm + (ls - lm) = ls by omega] at hfin
              exact hfin
            | succ i =>
              have hfl : (fixd (lm - (i + 1)) (val wl)).length = lm - (i + 1) := fixd_length _ _
              have hfz := L1.out.free (os + i)
              obtain ⟨v0, hcell⟩ := L1.out.get (j := os + i) (by rw [put_length (by rw [bts_length, hfl]; omega)]; omega)
              have HFL := Lib.hid hfl
              clear hfl
              go_wp2_with fail
              go_roundw
              case rel =>
                refine ⟨i, by omega, by go_num, ?_, Lib.hid ⟨grown_trans L2.out.1 (grownBy_set _ _ _ _), (size_set _ _ _).trans L2.out.2⟩⟩
                have hset := L1.out.set (os + i) (byt 48)
                rw [show os + (i + 1) = os + i + 1 by omega, ← put_cons (by rw [bts_length, HFL.out]; omega)] at hset
                have hd0 : val wl / 10 ^ (lm - (i + 1)) = 0 := Nat.div_eq_of_lt (Nat.lt_of_lt_of_le HVK.out (Nat.pow_le_pow_right (by omega) (by omega)))
                rw [show lm - i = lm - (i + 1) + 1 by omega, fixd_front, hd0]
                exact Lib.hid hset
              case measure => simp [intOf]
        · have hp : 0 < wt.length := List.length_pos_iff.2 he
          have hpb : decide ((0 : Int) < (wt.length : Int)) = true := decide_eq_true (by omega)
          obtain ⟨k1, k2, k3, k4⟩ := H4.out
          have hdv := HHD.out bq cq wt cz' wr H1.out H2.out H3.out hp (by omega) (by omega) hcb k2
          have HDV := Lib.hid hdv
          have K2 := Lib.hid k2
          have K3 := Lib.hid k3
          have K4 := Lib.hid k4
          clear hdv k2 k3 k4 he
          go_wp2_with fail
          (with_reducible refine HDV.out.mono ?_)
          rintro e w1 ⟨rfl, h1, h2, h3⟩
          have h19 : 19 * t < lm := by
            by_cases c : 19 * t < lm
            · exact c
            · exfalso
              have hz : val wl / 10 ^ (19 * t) = 0 := Nat.div_eq_of_lt (Nat.lt_of_lt_of_le HV.out (Nat.pow_le_pow_right (by omega) (by omega)))
              have := val_zero_nrm K3.out (by rw [K4.out, hz])
              rw [this] at hp; simp at hp
          have h19b : lm - i0 = 19 * t := by have := HT.out; omega
          have hRV : (divL Y19 wt).2 = val wl / 10 ^ (19 * t) % Y19 := by rw [(divL_eq (by unfold Y19; omega) wt).2, K4.out]
          obtain ⟨R, hR⟩ : ∃ R, R = (divL Y19 wt).2 := ⟨_, rfl⟩
          rw [← hR] at hRV ⊢
          have HRV := Lib.hid hRV
          have H19B := Lib.hid h19b
          clear hRV h19b
          obtain ⟨Q, hQ⟩ : ∃ Q, Q = normL (divL Y19 wt).1 := ⟨_, rfl⟩
          rw [← hQ]
          have HR := Lib.hid hR
          have HQ2 := Lib.hid hQ
          have G1 := Lib.hid h1
          have G2 := Lib.hid h2
          have G3 := Lib.hid h3
          clear hR hQ h1 h2 h3
          go_wp2_with fail
          obtain ⟨wo, rfl⟩ : ∃ wo : World, wo = w1 := ⟨_, rfl⟩
          go_loopw [19, 20, 21] (fun i r j wr2 => ∃ jj ii : Nat, jj ≤ 19 ∧ ii + jj = i0 ∧ i = .int .i64 (ii : Int) ∧ r = .int .u64 ((R / 10 ^ jj : Nat) : Int) ∧ j = .int .i64 (jj : Int) ∧ Hid (Arr wr2 bs 5 (put cont (os + ii) (bts (fixd (lm - ii) (val wl))))) ∧ Hid (wo.grownBy wr2 (some bs) ∧ wr2.heap.size = wo.heap.size)) (fun i _ _ _ => (intOf i).toNat)
          case atStart =>
            refine ⟨0, i0, by omega, by omega, rfl, by simp, rfl, Lib.hid (H5.out.other G2.out (by simp; exact Ne.symm hne)), Lib.hid ⟨grownBy_refl _ _, rfl⟩⟩
          case round =>
            obtain ⟨jj, ii, hj, hij, rfl, rfl, rfl, L1, L2⟩ := hrel
            by_cases hgo : jj < 19 ∧ 0 < ii
            · obtain ⟨g1, g2⟩ := hgo
              obtain ⟨i, rfl⟩ : ∃ i, ii = i + 1 := ⟨ii - 1, by omega⟩
              obtain ⟨X, hX⟩ : ∃ X, X = R / 10 ^ jj := ⟨_, rfl⟩
              rw [← hX]
              have hfl : (fixd (lm - (i + 1)) (val wl)).length = lm - (i + 1) := fixd_length _ _
              have hfz := L1.out.free (os + i)
              obtain ⟨v0, hcell⟩ := L1.out.get (j := os + i) (by rw [put_length (by rw [bts_length, hfl]; omega)]; omega)
              have HXB : Hid (X < WB) := Lib.hid (Nat.lt_of_le_of_lt (by rw [hX]; exact Nat.div_le_self _ _) (show R < WB by rw [HRV.out]; exact Nat.lt_trans (Nat.mod_lt _ (by unfold Y19; omega)) (by unfold Y19 WB; omega)))
              have HX := Lib.hid hX
              have HFL := Lib.hid hfl
              clear hX hfl
              go_wp2_with fail
              go_roundw
              case rel =>
                refine ⟨jj + 1, i, by omega, by omega, by go_num, ?_, by go_num, ?_, ?_⟩
                · rw [div10_val HXB.out, HX.out, Nat.div_div_eq_div_mul, ← Nat.pow_succ]
                · have hm : lm - (i + 1) = 19 * t + jj := by have := H19B.out; omega
                  have hdig : X % 10 = val wl / 10 ^ (lm - (i + 1)) % 10 := by rw [hm, ← digit_at _ _ _ g1, ← HRV.out, ← HX.out]
                  have hbv : Value.int IntKind.u8 ((48 + IntKind.u64.wrap ((X : Int) - IntKind.u64.wrap (IntKind.u64.wrap ((X : Int) / 10) * 10))) % 256) = byt (UInt8.ofNat (48 + val wl / 10 ^ (lm - (i + 1)) % 10)) := by
                    rw [dig_val HXB.out, byt, dec_digit, hdig]
                  rw [hbv]
                  have hset := L1.out.set (os + i) (byt (UInt8.ofNat (48 + val wl / 10 ^ (lm - (i + 1)) % 10)))
                  rw [show os + (i + 1) = os + i + 1 by omega, ← put_cons (by rw [bts_length, HFL.out]; omega)] at hset
                  rw [show lm - i = lm - (i + 1) + 1 by omega, fixd_front]
                  exact Lib.hid hset
                · exact Lib.hid ⟨grown_trans L2.out.1 (grownBy_set _ _ _ _), (size_set _ _ _).trans L2.out.2⟩
              case measure => simp [intOf]
            · by_cases h19j : jj = 19
              · subst h19j
                go_wp2_with fail
                go_roundw
                case rel =>
                  refine ⟨t + 1, ii, Q, put cz' 0 (wds (divL Y19 wt).1), by omega, rfl, by go_num, Lib.hid (by have := H19B.out; omega), Lib.hid (G1.out.other L2.out.1 (by simp; exact hne)), Lib.hid (by rw [put_length (by rw [wds_length, divL_len, H2.out]; omega)]; exact H2.out), ?_, ?_, L1, Lib.hid ⟨(H6.out.1.of_grown G2.out (.inl rfl)).of_grown L2.out.1 (.inr rfl), by rw [L2.out.2, G3.out, H6.out.2]⟩⟩
                  · rw [HQ2.out]
                    obtain ⟨n, n1, n2, _⟩ := normL_take (divL Y19 wt).1
                    rw [n2]
                    exact Lib.hid ((Sub.put_in (by omega)).take n)
                  · rw [HQ2.out]
                    obtain ⟨n, n1, n2, _⟩ := normL_take (divL Y19 wt).1
                    refine Lib.hid ⟨?_, (divL_ws (by unfold Y19; omega) K2.out).norm, nrm_normL _, ?_⟩
                    · rw [n2, List.length_take, divL_len]; omega
                    · rw [val_normL, (divL_eq (by unfold Y19; omega) wt).1, K4.out, Nat.div_div_eq_div_mul, show Y19 = 10 ^ 19 from rfl, ← Nat.pow_add, show 19 * t + 19 = 19 * (t + 1) by omega]
                case measure => simp [intOf]; omega
              · have hii : ii = 0 := by omega
                subst hii
                go_wp2_with fail
                go_roundw
                case rel =>
                  refine ⟨t + 1, 0, Q, put cz' 0 (wds (divL Y19 wt).1), by omega, rfl, by go_num, Lib.hid (by have := H19B.out; omega), Lib.hid (G1.out.other L2.out.1 (by simp; exact hne)), Lib.hid (by rw [put_length (by rw [wds_length, divL_len, H2.out]; omega)]; exact H2.out), ?_, ?_, L1, Lib.hid ⟨(H6.out.1.of_grown G2.out (.inl rfl)).of_grown L2.out.1 (.inr rfl), by rw [L2.out.2, G3.out, H6.out.2]⟩⟩
                  · rw [HQ2.out]
                    obtain ⟨n, n1, n2, _⟩ := normL_take (divL Y19 wt).1
                    rw [n2]
                    exact Lib.hid ((Sub.put_in (by omega)).take n)
                  · rw [HQ2.out]
                    obtain ⟨n, n1, n2, _⟩ := normL_take (divL Y19 wt).1
                    refine Lib.hid ⟨?_, (divL_ws (by unfold Y19; omega) K2.out).norm, nrm_normL _, ?_⟩
                    · rw [n2, List.length_take, divL_len]; omega
                    · rw [val_normL, (divL_eq (by unfold Y19; omega) wt).1, K4.out, Nat.div_div_eq_div_mul, show Y19 = 10 ^ 19 from rfl, ← Nat.pow_add, show 19 * t + 19 = 19 * (t + 1) by omega]
                case measure => have := H19B.out; simp [intOf]; omega

/-- convertWords with any table of at most three entries. -/
theorem conv_any : ∀ L : Nat, ConvSaid L := by
  intro L
  induction L using Nat.strongRecOn with
  | _ L IH => exact conv_step L IH
end Go.Proofs.Tz

/- Contract of divisors: the table of powers of ten. -/
namespace Go.Proofs.Tz
open Go.RowKit Mv

set_option maxHeartbeats 8000000 in
set_option maxRecDepth 100000 in
theorem divisors_any (R : Nat → Prop) (st m : Nat) (w : World) (c8 : w.cell? ⟨8, 0, none⟩ = some (.int .i64 8)) (c13 : w.cell? ⟨13, 0, none⟩ = some (.int .i64 12)) (c14 : w.cell? ⟨14, 0, none⟩ = some (.int .i64 80))
    (hS : Stk0 w st R) (hR : ∀ k, R k → k < w.heap.size) (r8 : R 8) (r13 : R 13) (r14 : R 14) (hm : 9 ≤ m) (hm2 : m ≤ 63) :
    Calls Tryz.prog 120 #[.pointer (some ⟨st, 0, none⟩), .int .i64 m, .int .u64 10, .int .i64 19, .int .u64 10000000000000000000] w fun e w' =>
      ∃ k bt be ce T, e = .returned (.slice (some ⟨bt, 0, none⟩) k k) ∧ 1 ≤ k ∧ k ≤ 3 ∧ Arr w' bt 196 T ∧ Ents w' T k k be ce ∧ w.heap.size ≤ bt ∧ (∀ e, e < k → w.heap.size ≤ be e) ∧ Only (fun k => ¬ R k) w w' ∧ Stk0 w' st (fun j => R j ∨ j = bt ∨ ∃ e, e < k ∧ j = be e) := by
  have q2 : decide ((m : Int) ≤ 8) = false := by simp; omega
  have HS := Lib.hid hS
  have HR := Lib.hid (And.intro hR (And.intro r8 (And.intro r13 r14)))
  have HC := Lib.hid (And.intro c8 (And.intro c13 c14))
  have mkt := fun (k : Nat) (hk : k ≤ 100) w => run_mkt k hk w
  have HK := Lib.hid mkt
  clear hS hR r8 r13 r14 c13 c14 mkt
  go_enter Tryz.func120, Tryz.ntmps120
  go_wp2_with fail
  go_loop [11, 12] (fun kk ww => ∃ k wd : Nat, ((k = 1 ∧ wd = 8) ∨ (k = 2 ∧ wd = 16) ∨ (k = 3 ∧ wd = 32)) ∧ kk = .int .i64 (k : Int) ∧ ww = .int .i64 (wd : Int)) (fun kk _ => 4 - (intOf kk).toNat)
  case atStart => exact ⟨1, 8, .inl ⟨rfl, rfl⟩, rfl, rfl⟩
  case round =>
    obtain ⟨k, wd, hkw, rfl, rfl⟩ := hrel
    have hk3 : 1 ≤ k ∧ k ≤ 3 := by omega
    by_cases hlt : wd < m / 2
    · have b1 : (wd : Int) < (m : Int) / 2 := by omega
      have b2 : (k : Int) < 64 := by omega
      have b3 : wd ≤ 32 := by omega
      go_wp2_with fail
      go_round
      case rel =>
        refine ⟨k + 1, wd * 2, ?_, by go_num, by go_num⟩
        omega
      case measure => simp [intOf]; omega
    · have b1 : ¬ (wd : Int) < (m : Int) / 2 := by omega
      have mk := HK.out k (by omega) w
      obtain ⟨w1, hw1⟩ : ∃ w1, w.alloc (.cells (tz k).toArray 196) = w1 := ⟨_, rfl⟩
      rw [hw1] at mk
      have t1 : Arr w1 w.heap.size 196 (tz k) := by rw [← hw1]; exact Arr.new w 196 (tz k)
      have hB1 : Below w.heap.size w w1 := by rw [← hw1]; exact (Below.refl _ _).alloc (Nat.le_refl _) _
      obtain ⟨k0, rfl⟩ : ∃ k0, k = k0 + 1 := ⟨k - 1, by omega⟩
      have ck := t1.cell (tz_get (k0 + 1) k0 (by omega)).2.2
      obtain ⟨bt, hbt⟩ : ∃ bt, w.heap.size = bt := ⟨_, rfl⟩
      rw [hbt] at mk ck t1
      rw [show ((k0 + 1 : Nat) : Int) = (k0 : Int) + 1 by omega] at mk
      clear hw1
      have HT := Lib.hid (And.intro t1 hB1)
      have HBT := Lib.hid hbt
      clear t1 hB1 hbt hlt hkw
      go_wp2_with fail
      go_loopw [14, 15] (fun a14 i wr => ∃ (v14 : Value) (ii : Nat) (T : List Value) (be ce : Nat → Nat), v14 = a14 ∧ ii ≤ k0 + 1 ∧ i = .int .i64 (ii : Int) ∧ Hid (Arr wr bt 196 T) ∧ Hid (Ents wr T (k0 + 1) ii be ce) ∧ Hid (∀ e, e < ii → bt < be e ∧ be e < wr.heap.size) ∧ Hid (Only (fun k => ¬ R k) w wr) ∧ Hid (Stk0 wr st (RR R bt ii be))) (fun _ i _ => k0 + 1 - (intOf i).toNat)
      case atStart =>
        obtain ⟨t1, hB1⟩ := HT.out
        refine ⟨_, 0, tz (k0 + 1), fun _ => 0, fun _ => 0, rfl, Nat.zero_le _, rfl, Lib.hid t1, Lib.hid ⟨by rw [tz_length], fun e h => by omega, fun e _ h => tz_get _ e h, fun e h => by omega⟩, Lib.hid (fun e h => by omega), Lib.hid ((Only.refl _ _).below hB1), Lib.hid ?_⟩
        refine (HS.out.mono (Q := RR R bt 0 fun _ => 0) fun j hj hq => ?_).below hB1
        rcases hq with h | h | ⟨e, h, _⟩
        · exact h
        · have := HBT.out; omega
        · omega
      case round =>
        obtain ⟨v14, ii, T, be, ce, rfl, hii, rfl, H1, H2, H3, H4, H5⟩ := hrel
        by_cases hlt : ii < k0 + 1
        · have i1 : (ii : Int) < (k0 : Int) + 1 := by omega
          have i2 : (0 : Int) ≤ (ii : Int) := by omega
          have hgl : ∀ j, R j → wr.heap[j]? = w.heap[j]? := fun j hj => H4.out.block j (HR.out.1 j hj) (fun h => h hj)
          have g8 : wr.cell? ⟨8, 0, none⟩ = some (.int .i64 8) := (World.cell?_of_block (hgl 8 HR.out.2.1)).trans HC.out.1
          have g13 : wr.cell? ⟨13, 0, none⟩ = some (.int .i64 12) := (World.cell?_of_block (hgl 13 HR.out.2.2.1)).trans HC.out.2.1
          have g14 : wr.cell? ⟨14, 0, none⟩ = some (.int .i64 80) := (World.cell?_of_block (hgl 14 HR.out.2.2.2)).trans HC.out.2.2
          obtain ⟨z0, z1, z2⟩ := H2.out.rest ii (Nat.le_refl _) hlt
          have d0 := H1.out.cell z0
          have d1 := H1.out.cell z1
          have d2 := H1.out.cell z2
          have f0 := H1.out.free (ii * 3)
          have f1 := H1.out.free (ii * 3 + 1)
          have f2 := H1.out.free (ii * 3 + 2)
          have hbt := H1.out.lt
          cases ii with
          | zero =>
            have hex := exp_tab st wr g13 g14
            have HEX := Lib.hid hex
            simp only [Nat.zero_mul, Nat.zero_add] at d0 d1 d2 f0 f1 f2 z0 z1 z2
            have Z := Lib.hid (And.intro z0 (And.intro z1 z2))
            clear hex hgl g13 g14 z0 z1 z2
            go_wp2_with fail
            (with_reducible refine HEX.out.mono ?_)
            rintro e w2 ⟨b, c, ps, rfl, p1, p2, p3, p4, p5, p6⟩
            have t2 := H1.out.below p6
            have d0' := t2.cell Z.out.1
            have d2' := t2.cell Z.out.2.2
            have f0' := t2.free 0
            have f2' := t2.free 2
            have g8' := cell_keep p6 g8
            have P := Lib.hid (And.intro p1 (And.intro p2 (And.intro p3 (And.intro p4 (And.intro p5 p6)))))
            have HT2 := Lib.hid t2
            clear p1 p2 p3 p4 p5 p6 t2 d0 d1 d2 f0 f1 f2 g8
            obtain ⟨p1, p2, p3, p4, p5, p6⟩ := P.out
            have n8 : 8 ≠ bt := by have := HBT.out; have := HR.out.1 8 HR.out.2.1; omega
            obtain ⟨wa, hwa⟩ : ∃ wa, w2.setCell ⟨bt, 0, none⟩ (.slice (some ⟨b, 0, none⟩) (nw 0) c) = wa := ⟨_, rfl⟩
            have ta : Arr wa bt 196 (T.set 0 (.slice (some ⟨b, 0, none⟩) (nw 0) c)) := by rw [← hwa]; exact HT2.out.set 0 _
            have ga : wa.cell? ⟨8, 0, none⟩ = some (.int .i64 8) := by rw [← hwa]; exact (World.cell?_of_block (Below.heap_setCell w2 ⟨bt, 0, none⟩ _ 8 n8)).trans g8'
            have da : wa.cell? ⟨bt, 2, none⟩ = some (.int .i64 0) := ta.cell (by rw [List.getElem?_set_ne (by omega)]; exact Z.out.2.2)
            have fa := ta.free 2
            obtain ⟨w3, hw3⟩ : ∃ w3, wa.setCell ⟨bt, 2, none⟩ (.int .i64 152) = w3 := ⟨_, rfl⟩
            have hbb : bt < b := by omega
            have hT3l : ((T.set 0 (.slice (some ⟨b, 0, none⟩) (nw 0) c)).set 2 (.int .i64 152)).length = (k0 + 1) * 3 := by rw [List.length_set, List.length_set]; exact H2.out.len
            have t3 : Arr w3 bt 196 ((T.set 0 (.slice (some ⟨b, 0, none⟩) (nw 0) c)).set 2 (.int .i64 152)) := by rw [← hw3]; exact ta.set 2 _
            have hw23 : w2.grownBy w3 (some bt) := by rw [← hw3, ← hwa]; exact grown_trans (grownBy_set _ _ _ _) (grownBy_set _ _ _ _)
            have hnR : ¬ R bt := fun h => by have := HR.out.1 bt h; have := HBT.out; omega
            have hH : Half R w w3 st bt (k0 + 1) 0 T ((T.set 0 (.slice (some ⟨b, 0, none⟩) (nw 0) c)).set 2 (.int .i64 152)) be ce b c 152 ps := by
              have hTl := H2.out.len
              refine ⟨t3, hT3l, ?_, ?_, ?_, ?_, p1.grown hw23 (fun e => by injection e with e; omega), p2, p4, p3, Nat.le_refl _, by decide, ⟨hbb, fun e h => by omega⟩, ?_, ?_, fun e h => by omega⟩
              · show _ = _
                rw [Nat.zero_mul, List.getElem?_set_ne (by omega), List.getElem?_set_self (by omega)]
              · rw [Nat.zero_mul, Nat.zero_add, List.getElem?_set_ne (by omega), List.getElem?_set_ne (by omega)]; exact Z.out.2.1
              · rw [Nat.zero_mul, Nat.zero_add, List.getElem?_set_self (by rw [List.length_set]; omega)]; rfl
              · intro j a1 a2 a3
                rw [Nat.zero_mul] at a1 a2 a3
                rw [List.getElem?_set_ne (by omega), List.getElem?_set_ne (by omega)]
              · exact (H4.out.below p6).of_grown hw23 hnR
              · exact (H5.out.new p6 p5).only (P := fun k => k = bt) ((Only.refl _ _).of_grown hw23 rfl) (fun k hk => .inl (.inr (.inl hk)))
            have cb := t3.cell hH.c0
            rw [Nat.zero_mul] at cb
            have HH := Lib.hid hH
            clear p1 p2 p3 p4 p5 p6 hT3l t3 hw23 hH ta
            go_wp2_with fail
            have h3 : 0 < 3 := by omega
            have hfr := HH.out.fresh
            have hnRb : ¬ R b := fun h => by have := HR.out.1 b h; have := HBT.out; omega
            have hnRt : ¬ R bt := fun h => by have := HR.out.1 bt h; have := HBT.out; omega
            (with_reducible refine (set_hold b c (nw 0) ps w3 HH.out.hold HH.out.plen (by have := nw_pos 0 h3; omega) (by have := nw_le 0; omega)).mono ?_)
            rintro e w4 ⟨bl, cl, rfl, l1, l2, l3⟩
            have hH4 := HH.out.below l3
            have hbl : b < bl := Nat.lt_of_lt_of_le HH.out.hold.lt l2
            have hnRl : ¬ R bl := fun h => by have := HR.out.1 bl h; have := HBT.out; omega
            have hS4 := HH.out.stk.new l3 l2
            have HF := Lib.hid (And.intro hbl (And.intro hnRl (And.intro hnRb (And.intro hnRt hfr))))
            have H4' := Lib.hid hH4
            have L4 := Lib.hid l1
            have S4 := Lib.hid hS4
            have HB4 := Lib.hid l3
            clear l1 l2 l3 hH4 hbl hnRl hS4 hnRb hnRt hfr cb
            go_wp2_with fail
            go_loopw [105] (fun a105 wr => ∃ (v105 : Value) (D : Nat) (qs : List Nat) (T5 : List Value), v105 = a105 ∧ Hid (Half R w wr st bt (k0 + 1) 0 T T5 be ce b c D qs) ∧ Hid (Hold wr bl cl qs) ∧ Hid (Stk0 wr st (fun j => (RR R bt 0 be j ∨ j = b) ∨ j = bl))) (fun _ wr => nd 0 + 1 - (intOf ((wr.cell? ⟨bt, 2, none⟩).getD (.int .i64 0))).toNat)
            case atStart => exact ⟨_, _, _, _, rfl, H4', L4, S4⟩
            case round =>
              obtain ⟨v105, D, qs, T5, rfl, J1, J2, J3⟩ := hrel
              obtain ⟨hbl, hnRl, hnRb, hnRt, hfr⟩ := HF.out
              have hpl := J1.out.plen
              obtain ⟨csl, m1, m2, m3, m4, m5⟩ := J2.out
              have hp3 := nw_pos 0 h3
              have hmul := mulAddVWW_any bl 0 cl bl 0 cl qs 10 0 160 csl wr m1 (source_same m1 m4) (by omega) (by omega) J1.out.ws (by unfold WB; omega) WB_pos
              rw [hpl] at hmul
              obtain ⟨t1, t2⟩ := times_ten h3 J1.out.ws hpl J1.out.pv J1.out.dlo J1.out.dhi
              by_cases hD : D < nd 0
              · obtain ⟨u1, u2⟩ := t1 hD
                rw [u1] at hmul
                have hq1 := (mulAddL_ws (show 10 < WB by unfold WB; omega) J1.out.ws 0 WB_pos).1
                have hq2 : (mulAddL 10 0 qs).1.length = nw 0 := by rw [mulAddL_len, hpl]
                obtain ⟨qs', hqs⟩ : ∃ q, q = (mulAddL 10 0 qs).1 := ⟨_, rfl⟩
                rw [← hqs] at hmul u2 hq1 hq2
                have hmul' : Calls Tryz.prog 148 #[.slice (some ⟨bl, 0, none⟩) (nw 0) cl, .slice (some ⟨bl, 0, none⟩) (nw 0) cl, .int .u64 10, .int .u64 0] wr fun e w' => e = .returned (.int .u64 0) ∧ Hold w' bl cl qs' ∧ wr.grownBy w' (some bl) := hmul.mono (by
                  rintro e w' ⟨rfl, y1, y2, y3⟩
                  exact ⟨rfl, ⟨_, y1, by rw [put_length (by rw [wds_length]; omega)]; exact m2, by omega, Sub.put_in (by omega), m5⟩, y2⟩)
                have HMU := Lib.hid hmul'
                have Q := Lib.hid (And.intro hq1 (And.intro hq2 u2))
                clear hmul hmul' u1 u2 t1 t2 hq1 hq2 hqs m1 m2 m3 m4 m5 hpl
                go_wp2_with fail
                (with_reducible refine HMU.out.mono ?_)
                rintro e w5 ⟨rfl, y1, y2⟩
                obtain ⟨k5, s5⟩ := J1.out.copy y2 hbl hnRl J3.out
                have e0 := k5.row.cell k5.c0
                obtain ⟨csb, n1, n2, n3, n4, n5⟩ := k5.hold
                have hset := set_own b (nw 0) c bl cl (nw 0) qs' csb w5 n1 n2 n5 y1 Q.out.2.1 (by rw [← k5.plen]; exact n3)
                have hset' : Calls Tryz.prog 121 #[.slice (some ⟨b, 0, none⟩) (nw 0) c, .slice (some ⟨bl, 0, none⟩) (nw 0) cl] w5 fun e w' => e = .returned (.slice (some ⟨b, 0, none⟩) (nw 0) c) ∧ Hold w' b c qs' ∧ w5.grownBy w' (some b) := hset.mono (by
                  rintro e w' ⟨rfl, x1, x2, x3⟩
                  have := k5.plen
                  exact ⟨rfl, ⟨_, x1, by rw [put_length (by rw [wds_length]; have := Q.out.2.1; omega)]; exact n2, by have := Q.out.2.1; omega, Sub.put_in (by omega), n5⟩, x2⟩)
                have HST := Lib.hid hset'
                have Y := Lib.hid (And.intro y1 (And.intro y2 (And.intro k5 s5)))
                try rw [Nat.zero_mul] at e0
                clear hset hset' y1 y2 k5 s5 n1 n2 n3 n4 n5
                go_wp2_with fail
                (with_reducible refine HST.out.mono ?_)
                rintro e w6 ⟨rfl, x1, x2⟩
                obtain ⟨y1, y2, k5, s5⟩ := Y.out
                have t6 : Arr w6 bt 196 T5 := k5.row.other x2 (fun e => by injection e with e; omega)
                have e6 := t6.cell k5.c0
                have e7 := t6.free (0 * 3)
                obtain ⟨w7, hw7⟩ : ∃ w7, w6.setCell ⟨bt, 0, none⟩ (.slice (some ⟨b, 0, none⟩) (nw 0) c) = w7 := ⟨_, rfl⟩
                have t7 : Arr w7 bt 196 (T5.set (0 * 3) (.slice (some ⟨b, 0, none⟩) (nw 0) c)) := by rw [← hw7]; exact t6.set _ _
                have e8 := t7.cell (j := 0 * 3 + 2) (v := .int .i64 (D : Int)) (by rw [List.getElem?_set_ne (by omega)]; exact k5.c2)
                have e9 := t7.free (0 * 3 + 2)
                obtain ⟨w8, hw8⟩ : ∃ w8, w7.setCell ⟨bt, 2, none⟩ (.int .i64 ((D : Int) + 1)) = w8 := ⟨_, rfl⟩
                obtain ⟨r1, r2, r3⟩ := J1.out.step (w5 := w5) (w6 := w6) (w7 := w7) (w8 := w8) (cl := cl) hlt hbl hnRl hnRb hnRt J3.out y2 y1 x2 x1 hD Q.out.1 Q.out.2.1 Q.out.2.2 hw7.symm hw8.symm
                have r4 := r1.row.cell r1.c2
                have R1 := Lib.hid r1
                have R2 := Lib.hid r2
                have R3 := Lib.hid r3
                have hD9 : D < 1000 := by have := nd_le 0; omega
                have r5 := J1.out.row.cell J1.out.c2
                try simp only [Nat.zero_mul, Nat.zero_add] at e6 e7 e8 e9 r4 r5
                clear r1 r2 r3 y1 y2 k5 s5 t6 t7 x1 x2 e0
                go_wp2_with fail
                go_roundw
                case rel => exact ⟨_, D + 1, qs', _, rfl, R1, R2, R3⟩
                case measure => rw [r4, r5]; simp [intOf]; omega
              · obtain rfl : D = nd 0 := by have := J1.out.dhi; omega
                have hcar := t2 rfl
                obtain ⟨cy, hcy⟩ : ∃ cy, cy = (mulAddL 10 0 qs).2 := ⟨_, rfl⟩
                rw [← hcy] at hcar hmul
                have hmul' : Calls Tryz.prog 148 #[.slice (some ⟨bl, 0, none⟩) (nw 0) cl, .slice (some ⟨bl, 0, none⟩) (nw 0) cl, .int .u64 10, .int .u64 0] wr fun e w' => e = .returned (.int .u64 (cy : Int)) ∧ wr.grownBy w' (some bl) := hmul.mono (by
                  rintro e w' ⟨rfl, y1, y2, y3⟩
                  exact ⟨rfl, y2⟩)
                have HMU := Lib.hid hmul'
                have hcz : ((cy : Int) == 0) = false := by simp only [beq_eq_false_iff_ne, ne_eq]; omega
                clear hmul hmul' t1 t2 hcy m1 m2 m3 m4 m5
                go_wp2_with fail
                (with_reducible refine HMU.out.mono ?_)
                rintro e w5 ⟨rfl, y2⟩
                obtain ⟨k5, s5⟩ := J1.out.copy y2 hbl hnRl J3.out
                have e0 := k5.row.cell k5.c0
                have e1 := k5.row.cell k5.c1
                have f1 := k5.row.free (0 * 3 + 1)
                obtain ⟨bt1, bt2, bt3⟩ := bits_top 0 h3
                obtain ⟨N, hN⟩ : ∃ N, nw 0 = N + 1 := ⟨nw 0 - 1, by omega⟩
                rw [hN, Nat.add_sub_cancel] at bt1 bt2 bt3
                have htop := top_word k5.ws (n := N) (by rw [k5.plen]; exact hN)
                rw [k5.pv] at htop
                obtain ⟨tp, htp⟩ : ∃ tp, tp = 10 ^ nd 0 / WB ^ N := ⟨_, rfl⟩
                rw [← htp] at bt1 bt2 bt3 htop
                have hbl' := bitLen_any b 0 N c tp w5 bt3 bt2 (by rw [Nat.zero_add]; exact k5.hold.cell htop) (by have := nw_le 0; omega) (by have := k5.hold.fit.1; have := k5.plen; omega)
                rw [bt1, ← hN] at hbl'
                have HBL := Lib.hid hbl'
                obtain ⟨w9, hw9⟩ : ∃ w9, w5.setCell ⟨bt, 1, none⟩ (.int .i64 ((nb 0 : Nat) : Int)) = w9 := ⟨_, rfl⟩
                obtain ⟨r1, r2, r3, r4⟩ := Half.done (w9 := w9) H2.out k5 hlt (by omega) hnRt hw9.symm
                have hbn : ∀ e, e < 0 + 1 → bt < (fun e => if e = 0 then b else be e) e ∧ (fun e => if e = 0 then b else be e) e < w9.heap.size := fun e he => by
                  have h1 := r2.hold e he
                  obtain ⟨vs, h1, _⟩ := h1
                  refine ⟨?_, h1.lt⟩
                  dsimp only
                  by_cases e1 : e = 0
                  · rw [if_pos e1]; exact hfr.1
                  · rw [if_neg e1]; exact (H3.out e (by omega)).1
                have R1 := Lib.hid r1
                have R2 := Lib.hid r2
                have R3 := Lib.hid r3
                have R4 := Lib.hid r4
                have R5 := Lib.hid hbn
                try simp only [Nat.zero_mul, Nat.zero_add] at e0 e1 f1
                clear r1 r2 r3 r4 hbn bt1 bt2 bt3 htop htp hbl' hN y2 k5 s5 hcar
                go_wp2_with fail
                (with_reducible refine HBL.out.mono ?_)
                rintro e w6 ⟨rfl, rfl⟩
                go_wp2_with fail
                go_roundw
                case rel => exact ⟨_, 0 + 1, _, _, _, rfl, by omega, by go_num, R1, R2, R5, R3, R4⟩
                case measure => simp [intOf] <;> omega
          | succ ii =>
            obtain ⟨vs, v1, v2, v3, v4⟩ := H2.out.hold ii (by omega)
            have hqb : ∀ j, RR R bt (ii + 1) be j → j < wr.heap.size := by
              rintro j (h | h | ⟨e, he, h⟩)
              · exact Nat.lt_of_lt_of_le (HR.out.1 j h) H4.out.size
              · rw [h]; exact hbt
              · rw [h]; exact (H3.out e he).2
            have hex := sqr_tab (RR R bt (ii + 1) be) st ii (be ii) (ce ii) vs wr g13 g14 H5.out hqb (.inr (.inr ⟨ii, by omega, rfl⟩)) (by omega) v1 v2 v3 v4
            have HEX := Lib.hid hex
            have m0 := H1.out.cell (H2.out.num ii (by omega)).1
            have Z := Lib.hid (And.intro z0 (And.intro z1 z2))
            have hi0 : ((ii : Int) + 1 == 0) = false := by simp only [beq_eq_false_iff_ne, ne_eq]; omega
            clear hex hgl g13 g14 z0 z1 z2 v1 v2 v3 v4 hqb
            go_wp2_with fail
            (with_reducible refine HEX.out.mono ?_)
            rintro e w2 ⟨b, c, ps, rfl, p1, p2, p3, p4, p5, p6, p7⟩
            have hn0 := (nd0_next ii (by omega)).1
            have t2 : Arr w2 bt 196 T := H1.out.only p6 (fun h => h (.inr (.inl rfl)))
            have hT := H2.out.len
            have d0' := t2.cell Z.out.1
            have f0' := t2.free ((ii + 1) * 3)
            obtain ⟨wa, hwa⟩ : ∃ wa, w2.setCell ⟨bt, (ii + 1) * 3, none⟩ (.slice (some ⟨b, 0, none⟩) (nw (ii + 1)) c) = wa := ⟨_, rfl⟩
            have ta : Arr wa bt 196 (T.set ((ii + 1) * 3) (.slice (some ⟨b, 0, none⟩) (nw (ii + 1)) c)) := by rw [← hwa]; exact t2.set _ _
            have da : wa.cell? ⟨bt, ii * 3 + 2, none⟩ = some (.int .i64 (nd ii : Nat)) := ta.cell (by rw [List.getElem?_set_ne (by omega)]; exact (H2.out.num ii (by omega)).2.2)
            have db : wa.cell? ⟨bt, (ii + 1) * 3 + 2, none⟩ = some (.int .i64 0) := ta.cell (by rw [List.getElem?_set_ne (by omega)]; exact Z.out.2.2)
            have fa := ta.free ((ii + 1) * 3 + 2)
            have hnd := nd_le ii
            obtain ⟨w3, hw3⟩ : ∃ w3, wa.setCell ⟨bt, (ii + 1) * 3 + 2, none⟩ (.int .i64 (2 * (nd ii : Int))) = w3 := ⟨_, rfl⟩
            have hv2 : Value.int .i64 (2 * (nd ii : Int)) = .int .i64 ((nd0 (ii + 1) : Nat) : Int) := by rw [hn0]; congr 1
            have t3 : Arr w3 bt 196 ((T.set ((ii + 1) * 3) (.slice (some ⟨b, 0, none⟩) (nw (ii + 1)) c)).set ((ii + 1) * 3 + 2) (.int .i64 ((nd0 (ii + 1) : Nat) : Int))) := by rw [← hw3, hv2]; exact ta.set _ _
            have hw23 : w2.grownBy w3 (some bt) := by rw [← hw3, ← hwa]; exact grown_trans (grownBy_set _ _ _ _) (grownBy_set _ _ _ _)
            have hnR : ¬ R bt := fun h => by have := HR.out.1 bt h; have := HBT.out; omega
            have o2 : Only (fun k => ¬ R k) wr w2 := p6.mono fun j hj hr => hj (.inl hr)
            have hH : Half R w w3 st bt (k0 + 1) (ii + 1) T ((T.set ((ii + 1) * 3) (.slice (some ⟨b, 0, none⟩) (nw (ii + 1)) c)).set ((ii + 1) * 3 + 2) (.int .i64 ((nd0 (ii + 1) : Nat) : Int))) be ce b c (nd0 (ii + 1)) ps := by
              refine ⟨t3, by rw [List.length_set, List.length_set]; exact hT, ?_, ?_, ?_, ?_, p1.grown hw23 (fun e => by injection e with e; omega), p2, p4, p3, Nat.le_refl _, (nd0_facts (ii + 1) (by omega)).2.2.2.1, ⟨by omega, fun e h => by have := H3.out e h; omega⟩, ?_, ?_, fun e h => ?_⟩
              · rw [List.getElem?_set_ne (by omega), List.getElem?_set_self (by omega)]
              · rw [List.getElem?_set_ne (by omega), List.getElem?_set_ne (by omega)]; exact Z.out.2.1
              · rw [List.getElem?_set_self (by rw [List.length_set]; omega)]
              · intro j a1 a2 a3
                rw [List.getElem?_set_ne (by omega), List.getElem?_set_ne (by omega)]
              · exact (H4.out.trans o2).of_grown hw23 hnR
              · exact p7.only (P := fun k => k = bt) ((Only.refl _ _).of_grown hw23 rfl) (fun k hk => .inl (.inr (.inl hk)))
              · obtain ⟨us, u1, u2⟩ := H2.out.hold e h
                have hbe := H3.out e h
                exact ⟨us, (u1.only p6 (fun hq => hq (.inr (.inr ⟨e, h, rfl⟩)))).grown hw23 (fun e => by injection e with e; omega), u2⟩
            have cb := t3.cell hH.c0
            have HH := Lib.hid hH
            have i3 : IntKind.i64.wrap (2 * (nd ii : Int)) = 2 * (nd ii : Int) := by rw [IntKind.wrap_i64]; omega
            clear p1 p2 p3 p4 p5 p6 p7 t3 hw23 hH ta t2 o2 hv2 hn0 d0 d1 d2 f0 f1 f2 m0
            go_wp2_with fail
            have h3 : (ii + 1) < 3 := by omega
            have hfr := HH.out.fresh
            have hnRb : ¬ R b := fun h => by have := HR.out.1 b h; have := HBT.out; omega
            have hnRt : ¬ R bt := fun h => by have := HR.out.1 bt h; have := HBT.out; omega
            (with_reducible refine (set_hold b c (nw (ii + 1)) ps w3 HH.out.hold HH.out.plen (by have := nw_pos (ii + 1) h3; omega) (by have := nw_le (ii + 1); omega)).mono ?_)
            rintro e w4 ⟨bl, cl, rfl, l1, l2, l3⟩
            have hH4 := HH.out.below l3
            have hbl : b < bl := Nat.lt_of_lt_of_le HH.out.hold.lt l2
            have hnRl : ¬ R bl := fun h => by have := HR.out.1 bl h; have := HBT.out; omega
            have hS4 := HH.out.stk.new l3 l2
            have HF := Lib.hid (And.intro hbl (And.intro hnRl (And.intro hnRb (And.intro hnRt hfr))))
            have H4' := Lib.hid hH4
            have L4 := Lib.hid l1
            have S4 := Lib.hid hS4
            have HB4 := Lib.hid l3
            clear l1 l2 l3 hH4 hbl hnRl hS4 hnRb hnRt hfr cb
            go_wp2_with fail
            go_loopw [105] (fun a105 wr => ∃ (v105 : Value) (D : Nat) (qs : List Nat) (T5 : List Value), v105 = a105 ∧ Hid (Half R w wr st bt (k0 + 1) (ii + 1) T T5 be ce b c D qs) ∧ Hid (Hold wr bl cl qs) ∧ Hid (Stk0 wr st (fun j => (RR R bt (ii + 1) be j ∨ j = b) ∨ j = bl))) (fun _ wr => nd (ii + 1) + 1 - (intOf ((wr.cell? ⟨bt, (ii + 1) * 3 + 2, none⟩).getD (.int .i64 0))).toNat)
            case atStart => exact ⟨_, _, _, _, rfl, H4', L4, S4⟩
            case round =>
              obtain ⟨v105, D, qs, T5, rfl, J1, J2, J3⟩ := hrel
              obtain ⟨hbl, hnRl, hnRb, hnRt, hfr⟩ := HF.out
              have hpl := J1.out.plen
              obtain ⟨csl, m1, m2, m3, m4, m5⟩ := J2.out
              have hp3 := nw_pos (ii + 1) h3
              have hmul := mulAddVWW_any bl 0 cl bl 0 cl qs 10 0 160 csl wr m1 (source_same m1 m4) (by omega) (by omega) J1.out.ws (by unfold WB; omega) WB_pos
              rw [hpl] at hmul
              obtain ⟨t1, t2⟩ := times_ten h3 J1.out.ws hpl J1.out.pv J1.out.dlo J1.out.dhi
              by_cases hD : D < nd (ii + 1)
              · obtain ⟨u1, u2⟩ := t1 hD
                rw [u1] at hmul
                have hq1 := (mulAddL_ws (show 10 < WB by unfold WB; omega) J1.out.ws 0 WB_pos).1
                have hq2 : (mulAddL 10 0 qs).1.length = nw (ii + 1) := by rw [mulAddL_len, hpl]
                obtain ⟨qs', hqs⟩ : ∃ q, q = (mulAddL 10 0 qs).1 := ⟨_, rfl⟩
                rw [← hqs] at hmul u2 hq1 hq2
                have hmul' : Calls Tryz.prog 148 #[.slice (some ⟨bl, 0, none⟩) (nw (ii + 1)) cl, .slice (some ⟨bl, 0, none⟩) (nw (ii + 1)) cl, .int .u64 10, .int .u64 0] wr fun e w' => e = .returned (.int .u64 0) ∧ Hold w' bl cl qs' ∧ wr.grownBy w' (some bl) := hmul.mono (by
                  rintro e w' ⟨rfl, y1, y2, y3⟩
                  exact ⟨rfl, ⟨_, y1, by rw [put_length (by rw [wds_length]; omega)]; exact m2, by omega, Sub.put_in (by omega), m5⟩, y2⟩)
                have HMU := Lib.hid hmul'
                have Q := Lib.hid (And.intro hq1 (And.intro hq2 u2))
                clear hmul hmul' u1 u2 t1 t2 hq1 hq2 hqs m1 m2 m3 m4 m5 hpl
                go_wp2_with fail
                (with_reducible refine HMU.out.mono ?_)
                rintro e w5 ⟨rfl, y1, y2⟩
                obtain ⟨k5, s5⟩ := J1.out.copy y2 hbl hnRl J3.out
                have e0 := k5.row.cell k5.c0
                obtain ⟨csb, n1, n2, n3, n4, n5⟩ := k5.hold
                have hset := set_own b (nw (ii + 1)) c bl cl (nw (ii + 1)) qs' csb w5 n1 n2 n5 y1 Q.out.2.1 (by rw [← k5.plen]; exact n3)
                have hset' : Calls Tryz.prog 121 #[.slice (some ⟨b, 0, none⟩) (nw (ii + 1)) c, .slice (some ⟨bl, 0, none⟩) (nw (ii + 1)) cl] w5 fun e w' => e = .returned (.slice (some ⟨b, 0, none⟩) (nw (ii + 1)) c) ∧ Hold w' b c qs' ∧ w5.grownBy w' (some b) := hset.mono (by
                  rintro e w' ⟨rfl, x1, x2, x3⟩
                  have := k5.plen
                  exact ⟨rfl, ⟨_, x1, by rw [put_length (by rw [wds_length]; have := Q.out.2.1; omega)]; exact n2, by have := Q.out.2.1; omega, Sub.put_in (by omega), n5⟩, x2⟩)
                have HST := Lib.hid hset'
                have Y := Lib.hid (And.intro y1 (And.intro y2 (And.intro k5 s5)))
                try rw [Nat.zero_mul] at e0
                clear hset hset' y1 y2 k5 s5 n1 n2 n3 n4 n5
                go_wp2_with fail
                (with_reducible refine HST.out.mono ?_)
                rintro e w6 ⟨rfl, x1, x2⟩
                obtain ⟨y1, y2, k5, s5⟩ := Y.out
                have t6 : Arr w6 bt 196 T5 := k5.row.other x2 (fun e => by injection e with e; omega)
                have e6 := t6.cell k5.c0
                have e7 := t6.free ((ii + 1) * 3)
                obtain ⟨w7, hw7⟩ : ∃ w7, w6.setCell ⟨bt, (ii + 1) * 3, none⟩ (.slice (some ⟨b, 0, none⟩) (nw (ii + 1)) c) = w7 := ⟨_, rfl⟩
                have t7 : Arr w7 bt 196 (T5.set ((ii + 1) * 3) (.slice (some ⟨b, 0, none⟩) (nw (ii + 1)) c)) := by rw [← hw7]; exact t6.set _ _
                have e8 := t7.cell (j := (ii + 1) * 3 + 2) (v := .int .i64 (D : Int)) (by rw [List.getElem?_set_ne (by omega)]; exact k5.c2)
                have e9 := t7.free ((ii + 1) * 3 + 2)
                obtain ⟨w8, hw8⟩ : ∃ w8, w7.setCell ⟨bt, (ii + 1) * 3 + 2, none⟩ (.int .i64 ((D : Int) + 1)) = w8 := ⟨_, rfl⟩
                obtain ⟨r1, r2, r3⟩ := J1.out.step (w5 := w5) (w6 := w6) (w7 := w7) (w8 := w8) (cl := cl) hlt hbl hnRl hnRb hnRt J3.out y2 y1 x2 x1 hD Q.out.1 Q.out.2.1 Q.out.2.2 hw7.symm hw8.symm
                have r4 := r1.row.cell r1.c2
                have R1 := Lib.hid r1
                have R2 := Lib.hid r2
                have R3 := Lib.hid r3
                have hD9 : D < 1000 := by have := nd_le (ii + 1); omega
                have r5 := J1.out.row.cell J1.out.c2
                try simp only [Nat.zero_mul, Nat.zero_add] at e6 e7 e8 e9 r4 r5
                clear r1 r2 r3 y1 y2 k5 s5 t6 t7 x1 x2 e0
                go_wp2_with fail
                go_roundw
                case rel => exact ⟨_, D + 1, qs', _, rfl, R1, R2, R3⟩
                case measure => rw [r4, r5]; simp [intOf]; omega
              · obtain rfl : D = nd (ii + 1) := by have := J1.out.dhi; omega
                have hcar := t2 rfl
                obtain ⟨cy, hcy⟩ : ∃ cy, cy = (mulAddL 10 0 qs).2 := ⟨_, rfl⟩
                rw [← hcy] at hcar hmul
                have hmul' : Calls Tryz.prog 148 #[.slice (some ⟨bl, 0, none⟩) (nw (ii + 1)) cl, .slice (some ⟨bl, 0, none⟩) (nw (ii + 1)) cl, .int .u64 10, .int .u64 0] wr fun e w' => e = .returned (.int .u64 (cy : Int)) ∧ wr.grownBy w' (some bl) := hmul.mono (by
                  rintro e w' ⟨rfl, y1, y2, y3⟩
                  exact ⟨rfl, y2⟩)
                have HMU := Lib.hid hmul'
                have hcz : ((cy : Int) == 0) = false := by simp only [beq_eq_false_iff_ne, ne_eq]; omega
                clear hmul hmul' t1 t2 hcy m1 m2 m3 m4 m5
                go_wp2_with fail
                (with_reducible refine HMU.out.mono ?_)
                rintro e w5 ⟨rfl, y2⟩
                obtain ⟨k5, s5⟩ := J1.out.copy y2 hbl hnRl J3.out
                have e0 := k5.row.cell k5.c0
                have e1 := k5.row.cell k5.c1
                have f1 := k5.row.free ((ii + 1) * 3 + 1)
                obtain ⟨bt1, bt2, bt3⟩ := bits_top (ii + 1) h3
                obtain ⟨N, hN⟩ : ∃ N, nw (ii + 1) = N + 1 := ⟨nw (ii + 1) - 1, by omega⟩
                rw [hN, Nat.add_sub_cancel] at bt1 bt2 bt3
                have htop := top_word k5.ws (n := N) (by rw [k5.plen]; exact hN)
                rw [k5.pv] at htop
                obtain ⟨tp, htp⟩ : ∃ tp, tp = 10 ^ nd (ii + 1) / WB ^ N := ⟨_, rfl⟩
                rw [← htp] at bt1 bt2 bt3 htop
                have hbl' := bitLen_any b 0 N c tp w5 bt3 bt2 (by rw [Nat.zero_add]; exact k5.hold.cell htop) (by have := nw_le (ii + 1); omega) (by have := k5.hold.fit.1; have := k5.plen; omega)
                rw [bt1, ← hN] at hbl'
                have HBL := Lib.hid hbl'
                obtain ⟨w9, hw9⟩ : ∃ w9, w5.setCell ⟨bt, (ii + 1) * 3 + 1, none⟩ (.int .i64 ((nb (ii + 1) : Nat) : Int)) = w9 := ⟨_, rfl⟩
                obtain ⟨r1, r2, r3, r4⟩ := Half.done (w9 := w9) H2.out k5 hlt (by omega) hnRt hw9.symm
                have hbn : ∀ e, e < (ii + 1) + 1 → bt < (fun e => if e = (ii + 1) then b else be e) e ∧ (fun e => if e = (ii + 1) then b else be e) e < w9.heap.size := fun e he => by
                  have h1 := r2.hold e he
                  obtain ⟨vs, h1, _⟩ := h1
                  refine ⟨?_, h1.lt⟩
                  dsimp only
                  by_cases e1 : e = (ii + 1)
                  · rw [if_pos e1]; exact hfr.1
                  · rw [if_neg e1]; exact (H3.out e (by omega)).1
                have R1 := Lib.hid r1
                have R2 := Lib.hid r2
                have R3 := Lib.hid r3
                have R4 := Lib.hid r4
                have R5 := Lib.hid hbn
                try simp only [Nat.zero_mul, Nat.zero_add] at e0 e1 f1
                clear r1 r2 r3 r4 hbn bt1 bt2 bt3 htop htp hbl' hN y2 k5 s5 hcar
                go_wp2_with fail
                (with_reducible refine HBL.out.mono ?_)
                rintro e w6 ⟨rfl, rfl⟩
                go_wp2_with fail
                go_roundw
                case rel => exact ⟨_, (ii + 1) + 1, _, _, _, rfl, by omega, by go_num, R1, R2, R5, R3, R4⟩
                case measure => simp [intOf] <;> omega
        · obtain rfl : ii = k0 + 1 := by omega
          have hb0 := HBT.out
          have hRR : (fun j => R j ∨ j = bt ∨ ∃ e, e < k0 + 1 ∧ j = be e) = RR R bt (k0 + 1) be := rfl
          have FF := Lib.hid (And.intro H1.out (And.intro H2.out (And.intro H4.out H5.out)))
          go_wp2_with fail
          go_ret
          exact ⟨k0 + 1, bt, be, ce, T, rfl, by omega, by omega, FF.out.1, FF.out.2.1, by omega, fun e he => by have := H3.out e he; omega, FF.out.2.2.1, FF.out.2.2.2⟩
end Go.Proofs.Tz

/- Contract of itoa at numbers of many words. -/
namespace Go.Proofs.Tz
open Go.RowKit Mv

set_option maxHeartbeats 1000000 in
theorem sifree (si bw l c : Nat) (cs : List Value) (w : World) (h : SB w si bw l c cs) :
    Calls Tryz.prog 145 #[.pointer (some ⟨si, 0, none⟩)] w fun e w' => e = .returned (.tuple #[]) ∧ w.grownBy w' (some si) := by
  have c1 : w.cell? ⟨si, 0, none⟩ = some (.slice (some ⟨bw, 0, none⟩) l c) := h.hdr.cell rfl
  have f1 := h.hdr.free 0
  have hcap := h.cap
  clear h
  go_enter Tryz.func145, Tryz.ntmps145
  go_wp2_with fail
  go_end0
  exact ⟨rfl, grownBy_set _ _ _ _⟩
set_option maxHeartbeats 1000000 in
/-- The stack's free, as a deferred call. -/
theorem free_any (R : Nat → Prop) (st : Nat) (u : FrameMode) (w : World) (h : Stk0 w st R) : CallsD Tryz.prog 118 #[.pointer (some ⟨st, 0, none⟩)] u w fun e u' w' => u' = u ∧ (e = .returned (.tuple #[]) ∧ Only (fun k => ¬ R k) w w') := by
  obtain ⟨_, h | ⟨si, bw, c, cs, g1, g2, g3⟩⟩ := h
  · refine (free_none st u w h).mono ?_
    rintro e u' w' ⟨rfl, rfl, rfl⟩
    exact ⟨rfl, rfl, Only.refl _ _⟩
  · have c0 : w.cell? ⟨st, 0, none⟩ = some (.pointer (some ⟨si, 0, none⟩)) := g3.ptr.cell rfl
    have HC := Lib.hid (sifree si bw 0 c cs w g3.inner)
    have HG := Lib.hid g1
    clear g1 g2 g3
    go_enter_d Tryz.func118, Tryz.ntmps118
    go_wp2_with fail
    (with_reducible refine HC.out.mono ?_)
    rintro e w1 ⟨rfl, h1⟩
    go_wp2_with fail
    go_end0
    exact ⟨rfl, (Only.refl _ _).of_grown h1 HG.out⟩

set_option maxHeartbeats 4000000 in
set_option maxRecDepth 100000 in
theorem itoa_big (b cap n0 : Nat) (ws : List Nat) (cs : List Value) (w : World)
    (hA : Arr w b 160 cs) (hs : Sub cs 0 ws) (hl : ws.length ≤ cs.length) (hn0 : ws.length = n0 + 1) (h9 : 9 ≤ ws.length) (h63 : ws.length ≤ 63) (hc : ws.length ≤ cap) (hws : Ws ws) (hnr : Nrm ws)
    (hL : w.cell? ⟨8, 0, none⟩ = some (.int .i64 8)) (h13 : w.cell? ⟨13, 0, none⟩ = some (.int .i64 12)) (h14 : w.cell? ⟨14, 0, none⟩ = some (.int .i64 80)) (h15 : w.cell? ⟨15, 0, none⟩ = some (.int .i64 40)) (h15b : 15 < w.heap.size) :
    Calls Tryz.prog 102 #[.slice (some ⟨b, 0, none⟩) ws.length cap, .bool false, .int .i64 10] w fun e w' =>
      ∃ bs off c, e = .returned (.slice (some ⟨bs, off, none⟩) (dec (val ws)).length c) ∧ w.heap.size ≤ bs ∧ (∀ i x, (dec (val ws))[i]? = some x → w'.cell? ⟨bs, off + i, none⟩ = some (byt x)) ∧ Below w.heap.size w w' := by
  obtain ⟨t, ht⟩ : ∃ t, ws[n0]? = some t := ⟨_, List.getElem?_eq_getElem (by omega)⟩
  have ht0 : t ≠ 0 := by
    have hsp : ws = ws.take n0 ++ [t] := by
      have := List.take_append_getElem (l := ws) (i := n0) (by omega)
      rw [List.getElem?_eq_getElem (by omega)] at ht
      injection ht with ht
      rw [ht, List.take_of_length_le (by omega : ws.length ≤ n0 + 1)] at this
      exact this.symm
    rw [hsp] at hnr
    exact hnr.top
  have htw : t < WB := hws t (List.mem_of_getElem? ht)
  have hct : w.cell? ⟨b, 0 + n0, none⟩ = some (.int .u64 (t : Int)) := hA.cell (hs n0 t ht)
  have hbl := fun w hc => bitLen_any b 0 n0 cap t w ht0 htw hc (by omega) (by omega)
  obtain ⟨L, hLL⟩ : ∃ L, L = 64 * n0 + Lib.bitLen t := ⟨_, rfl⟩
  rw [← hLL, ← hn0] at hbl
  have hz0 : ((ws.length : Int) == 0) = false := by simp; intro e; rw [e] at hn0; simp at hn0
  obtain ⟨g1, g2, g3, g4⟩ := blen_bounds ht0 htw
  have hL42 : L < 4200 := by omega
  have hval : val ws < 2 ^ L := by
    have hsp : ws = ws.take n0 ++ [t] := by
      have := List.take_append_getElem (l := ws) (i := n0) (by omega)
      rw [List.getElem?_eq_getElem (by omega)] at ht
      injection ht with ht
      rw [ht, List.take_of_length_le (by omega : ws.length ≤ n0 + 1)] at this
      exact this.symm
    have hlow := val_lt (xs := ws.take n0) (fun x hx => hws x (List.mem_of_mem_take hx))
    have hlen : (ws.take n0).length = n0 := by rw [List.length_take]; omega
    rw [hlen] at hlow
    have hv : val ws = val (ws.take n0) + WB ^ n0 * t := by
      conv => lhs; rw [hsp]
      rw [val_append, hlen, val_cons, val_nil]; simp
    have hW : WB ^ n0 = 2 ^ (64 * n0) := by rw [Nat.pow_mul]; rfl
    rw [hv, hLL, Nat.pow_add, ← hW]
    calc val (ws.take n0) + WB ^ n0 * t < WB ^ n0 + WB ^ n0 * t := by omega
      _ = WB ^ n0 * (t + 1) := by rw [Nat.mul_add, Nat.mul_one, Nat.add_comm]
      _ ≤ WB ^ n0 * 2 ^ Lib.bitLen t := Nat.mul_le_mul_left _ (by omega)
  obtain ⟨k1, k2, k3, k4, k5⟩ := okL_props hL42
  obtain ⟨m, hm⟩ : ∃ m : Nat, il L = (m : Int) := ⟨(il L).toNat, by omega⟩
  have hcv : ∀ w : World, (convert 3 158 (.int .i64 (L : Int))).run Tryz.prog w = .ok (.float .f64 (floatOfInt .f64 (L : Int))) w := fun w => run_convert_int_float w 3 158 .i64 .f64 (L : Int) (by rw [Tryz.underlying3]; rfl) Tryz.underlying158
  have hcv10 : ∀ w : World, (convert 3 158 (.int .i64 10)).run Tryz.prog w = .ok (.float .f64 4621819117588971520) w := fun w => by
    refine (run_convert_int_float w 3 158 .i64 .f64 10 (by rw [Tryz.underlying3]; rfl) Tryz.underlying158).trans ?_
    kernel_rfl
  have hq := fun w => quo_run hL42 w
  have hi := fun w => int_run hL42 w
  rw [hm] at hi k4 k5
  have hd10 : val ws < 10 ^ (m + 1) := Nat.lt_of_lt_of_le hval (by rwa [show ((m : Int) + 1).toNat = m + 1 by omega] at k5)
  have hm2 : m ≤ 2000 := by omega
  have hvp : val ws ≠ 0 := by
    intro h0
    have := val_zero_nrm hnr h0
    rw [this] at hn0; simp at hn0
  obtain ⟨i1, hi1, hi2, hi3, hi4⟩ := drop_of_dropWhile (fixd (m + 1) (val ws))
  rw [drop_fixd hd10 hvp] at hi2
  rw [fixd_length] at hi1
  have hi5 : i1 < m + 1 := by
    have : dec (val ws) ≠ [] := dec_ne_nil _
    rw [hi2] at this
    rcases Nat.lt_or_ge i1 (m + 1) with h | h
    · exact h
    · exact absurd (List.drop_eq_nil_of_le (by rw [fixd_length]; omega)) this
  generalize hF : floatOfInt .f64 (L : Int) = fL at *
  generalize hG : qf L = qL at *
  have hmk := fun w => run_mkb (m + 1) (by omega) w
  rw [show ((m + 1 : Nat) : Int) = (m : Int) + 1 by omega] at hmk
  have hand : bits BinOp.and IntKind.u64 10 (IntKind.u64.wrap (-10)) = 2 := by decide
  have HL16 := Lib.hid h15b
  have HEN := Lib.hid (And.intro hL (And.intro h13 (And.intro h14 h15)))
  have HA := Lib.hid hA
  have HS := Lib.hid hs
  have HW := Lib.hid hws
  have HN := Lib.hid hnr
  have HBL := Lib.hid hbl
  have HV := Lib.hid (And.intro hd10 hvp)
  have HI := Lib.hid (And.intro hi2 (And.intro hi3 hi4))
  have HL := Lib.hid hL
  have HCT := Lib.hid hct
  have HZ := Lib.hid (zb_length (m + 1))
  have HN0 := Lib.hid hn0
  clear h13 h14 h15 hn0 hA hs hws hnr hbl hd10 hvp hi2 hi3 hi4 hL hct ht ht0 htw g1 g2 g3 g4 hLL hL42 hval k1 k2 k3 k4 k5 hm hF hG
  go_enter_defers Tryz.func102, Tryz.ntmps102
  go_wp2_with fail
  (with_reducible refine (HBL.out _ HCT.out).mono ?_)
  rintro e w1 ⟨rfl, rfl⟩
  go_wp2_with fail
  (with_reducible refine (log2_ten _).mono ?_)
  rintro e w1 ⟨rfl, rfl⟩
  go_wp2_with fail
  (with_reducible refine (getStack_any _).mono ?_)
  rintro e w2 ⟨he, hST, hB2, hz2⟩
  rw [size_alloc] at he hST hB2 hz2
  have hSt := (Arr.new w 5 (zb (m + 1))).below (by rw [size_alloc]; exact hB2)
  have hB0 : Below w.heap.size w w2 := ((Below.refl w.heap.size w).alloc (Nat.le_refl _) (.cells (zb (m + 1)).toArray 5)).trans (hB2.mono (by omega))
  have hA2 := HA.out.below hB0
  have HST := Lib.hid hST
  have HSTR := Lib.hid hSt
  have HA2 := Lib.hid hA2
  have HB0 := Lib.hid hB0
  have HZ2 := Lib.hid hz2
  subst he
  clear hST hSt hA2 hB0 hB2 hz2
  go_wp2_with fail
  (with_reducible refine (maxPow_ten _).mono ?_)
  rintro e w3 ⟨rfl, rfl⟩
  go_wp2_with fail
  have hsz16 : 15 < w.heap.size := HL16.out
  have d8 : w2.cell? ⟨8, 0, none⟩ = some (.int .i64 8) := (HB0.out.cell (show 8 < w.heap.size by omega)).trans HEN.out.1
  have d13 : w2.cell? ⟨13, 0, none⟩ = some (.int .i64 12) := (HB0.out.cell (show 13 < w.heap.size by omega)).trans HEN.out.2.1
  have d14 : w2.cell? ⟨14, 0, none⟩ = some (.int .i64 80) := (HB0.out.cell (show 14 < w.heap.size by omega)).trans HEN.out.2.2.1
  have hdv := divisors_any (fun j => j ≤ w.heap.size) (w.heap.size + 1) ws.length w2 d8 d13 d14
    ⟨fun h => by omega, .inl HST.out⟩ (fun j hj => by have := HZ2.out; omega) (by omega) (by omega) (by omega) h9 h63
  (with_reducible refine hdv.mono ?_)
  rintro e w3 ⟨k, bt, be, ce, T, rfl, hk1, hk3, hT3, hE3, hbt, hbe, ho3, hS3⟩
  have hz2 := HZ2.out
  have hB3 : Below w.heap.size w w3 := HB0.out.trans (ho3.toBelow (fun j hj => Nat.le_of_lt (Nat.lt_of_not_le hj)) HB0.out.size)
  have hA3 : Arr w3 b 160 cs := HA2.out.only ho3 (fun h => h (by have := HA.out.lt; omega))
  have hS3b : Arr w3 w.heap.size 5 (zb (m + 1)) := HSTR.out.only ho3 (fun h => h (Nat.le_refl _))
  have hz3 : w2.heap.size ≤ w3.heap.size := ho3.size
  have HK := Lib.hid (And.intro hk1 (And.intro hk3 (And.intro hbt hbe)))
  have HT3 := Lib.hid hT3
  have HE3 := Lib.hid hE3
  have HSK := Lib.hid hS3
  have HB3 := Lib.hid hB3
  have HA3 := Lib.hid hA3
  have HS3 := Lib.hid hS3b
  have HZ3 := Lib.hid (show w.heap.size + 2 ≤ w3.heap.size by omega)
  clear d8 d13 d14 hdv hk1 hk3 hT3 hE3 hbt hbe ho3 hS3 hz2 hB3 hA3 hS3b hz3
  go_wp2_with fail
  (with_reducible refine (set_new b cap ws cs w3 HA3.out HS.out hl (by have := HN0.out; omega) (by omega)).mono ?_)
  rintro e w4 ⟨c', h1, h2, rfl, hN4, hB4⟩
  have hz3 := HZ3.out
  have hz4 := hB4.size
  have hB04 : Below w.heap.size w w4 := HB3.out.trans (hB4.mono (by omega))
  have hcl : (put (zs c') 0 (wds ws)).length = c' := by rw [put_length (by rw [wds_length, zs_length]; omega), zs_length]
  obtain ⟨hk1, hk3, hbt, hbe⟩ := HK.out
  have hz2 := HZ2.out
  have hwb := HA.out.lt
  have hbe2 : ∀ e, e < k → be e < w3.heap.size := fun e he => by obtain ⟨vs, v1, _⟩ := HE3.out.hold e he; exact v1.lt
  have hbt2 := HT3.out.lt
  have hsk := (HSK.out.new hB4 (Nat.le_refl _)).mono (Q := fun j => (j < w.heap.size ∨ j = bt ∨ ∃ e, e < k ∧ j = be e) ∨ j = w3.heap.size ∨ j = w.heap.size) (fun j _ hj => by
    rcases hj with (hj | hj | hj) | hj | hj
    · exact .inl (.inl (by omega))
    · exact .inl (.inr (.inl hj))
    · exact .inl (.inr (.inr hj))
    · exact .inr hj
    · exact .inl (.inl (by omega)))
  have e8 : w4.cell? ⟨8, 0, none⟩ = some (.int .i64 8) := (hB04.cell (show 8 < w.heap.size by omega)).trans HEN.out.1
  have e15 : w4.cell? ⟨15, 0, none⟩ = some (.int .i64 40) := (hB04.cell (show 15 < w.heap.size by omega)).trans HEN.out.2.2.2
  have hcv4 := conv_any k (fun j => j < w.heap.size ∨ j = bt ∨ ∃ e, e < k ∧ j = be e) (w.heap.size + 1) w3.heap.size c' w.heap.size 0 (m + 1) (m + 1) bt k k T be ce ws (zb (m + 1)) w4 (HT3.out.below hB4) (HE3.out.keep fun e he => hB4.block _ (hbe2 e he)) (Nat.le_refl _) hk3 (Nat.le_refl _) hsk
    (fun j hj => by
      rcases hj with hj | hj | ⟨e, he, hj⟩
      · omega
      · omega
      · have := hbe2 e he; omega)
    (fun hj => by
      rcases hj with hj | hj | ⟨e, he, hj⟩
      · omega
      · omega
      · have := hbe2 e he; omega)
    (fun hj => by
      rcases hj with hj | hj | ⟨e, he, hj⟩
      · omega
      · omega
      · have := hbe e he; omega)
    (by omega) (.inr (.inl rfl)) (fun e he => .inr (.inr ⟨e, he, rfl⟩)) (.inl (by omega)) (.inl (by omega))
    e8 e15 ⟨_, hN4, hcl, h1, Sub.put_in (by omega), by omega⟩ HW.out HN.out (by omega) (fun h => by omega) (HS3.out.below hB4) (by rw [zb_length]; omega) (by omega) (Nat.le_refl _) HV.out.1
  have HCP := Lib.hid hcv4
  have HB04 := Lib.hid hB04
  have HR := Lib.hid (And.intro hz3 hz4)
  have HBR := Lib.hid (And.intro hbt (And.intro hbe (And.intro hbt2 hbe2)))
  have hk9 : (0 : Int) < (k : Int) := by omega
  clear e8 e15 hcv4 hsk hB04 hcl hz2 hz3 hz4 hN4 hB4 hbt hbe hbt2 hbe2 hwb
  go_wp2_with fail
  (with_reducible refine (HCP.out).mono ?_)
  rintro e w5 ⟨rfl, hS5, ho, hsk5, _⟩
  have hput : put (zb (m + 1)) 0 (bts (fixd (m + 1) (val ws))) = bts (fixd (m + 1) (val ws)) := put_zero_all (by rw [bts_length, fixd_length, zb_length])
  rw [hput] at hS5
  have hB5 : Below w.heap.size w w5 := HB04.out.trans (ho.toBelow (fun j hj => Nat.le_of_not_lt fun h => hj (.inl h)) (by have := HR.out; omega))
  have HS5 := Lib.hid hS5
  have HB5 := Lib.hid hB5
  have HT5 := Lib.hid hsk5
  clear hput hS5 ho hB5 hsk5
  go_wp2_with fail
  go_loopw [7] (fun i wr => ∃ ii : Nat, ii ≤ i1 ∧ i = .int .i64 (ii : Int) ∧ wr = w5) (fun i _ => (m + 1) - (intOf i).toNat)
  case atStart => exact ⟨0, Nat.zero_le _, rfl, rfl⟩
  case round =>
    obtain ⟨ii, hii, rfl, rfl⟩ := hrel
    have hcell : ∃ x, (fixd (m + 1) (val ws))[ii]? = some x := ⟨_, List.getElem?_eq_getElem (by rw [fixd_length]; omega)⟩
    obtain ⟨x, hx⟩ := hcell
    have hc5 : wr.cell? ⟨w.heap.size, ii, none⟩ = some (.int .u8 (x.toNat : Int)) := HS5.out.cell (bts_get hx)
    by_cases he : ii = i1
    · have hx48 : ((x.toNat : Int) == 48) = false := by
        have := HI.out.2.2
        rw [← he, hx] at this
        simp only [beq_eq_false_iff_ne]
        intro h48
        exact this (by rw [show x = 48 from UInt8.toNat_inj.1 (by show x.toNat = 48; omega)])
      have hle : ii ≤ m + 1 := by omega
      have HE := Lib.hid he
      clear hx he
      go_wp2_with fail
      refine leaves_cons (f := 118) (args := #[.pointer (some ⟨w.heap.size + 1, 0, none⟩)]) (by simp) (by simp [go_sem]) ?_
      refine (free_any _ (w.heap.size + 1) .returning _ HT5.out).mono ?_
      rintro e u' w'' ⟨rfl, rfl, hfo⟩
      have hlen : (dec (val ws)).length = m + 1 - ii := by rw [HI.out.1, List.length_drop, fixd_length, HE.out]
      have hS6 := HS5.out.only hfo (fun h => h (.inr (.inr rfl)))
      refine ⟨_, results_tmp rfl _ _ _, w.heap.size, ii, m + 1 - ii, by rw [hlen]; rfl, Nat.le_refl _, ?_, HB5.out.trans (hfo.toBelow (fun j hj => Nat.le_of_not_lt fun h => hj (.inl (.inl h))) HB5.out.size)⟩
      intro i x hx
      rw [HI.out.1, List.getElem?_drop, ← HE.out] at hx
      exact hS6.cell (bts_get hx)
    · have hx48 : ((x.toNat : Int) == 48) = true := by
        have := HI.out.2.1 ii (by omega)
        rw [hx] at this
        injection this with this
        rw [this]; rfl
      have HE := Lib.hid he
      clear hx he
      go_wp2_with fail
      go_roundw
      case rel => exact ⟨ii + 1, by have := HE.out; omega, by simp⟩
      case measure => simp [intOf]; omega

theorem room_63 : 10 ^ 1200 ≤ WB ^ 63 := by decide +kernel
/-- What itoa does at numbers of at most 63 words. -/
theorem itoa_63 : ItoaSaid 63 := by
  intro v ws base w hN hk hws hnr hE
  by_cases h8 : ws.length ≤ 8
  · exact itoa_said (K := 8) (Nat.le_refl _) (divW_all rec_0 8) v ws base w hN h8 hws hnr hE
  · rcases hN with ⟨_, h⟩ | ⟨b, cap, cs, rfl, hb, hA, hcl, hl, hS⟩
    · rw [h] at h8; simp at h8
    · obtain ⟨n0, hn0⟩ : ∃ n0, ws.length = n0 + 1 := ⟨ws.length - 1, by omega⟩
      refine (itoa_big b cap n0 ws cs w hA hS (by omega) hn0 (by omega) hk hl hws hnr hE.leaf hE.sq hE.ks hE.dr (by have := hE.env.size; omega)).mono ?_
      rintro e w' ⟨bs, off, c, h1, _, h2, h3⟩
      exact ⟨bs, off, c, h1, h2, h3⟩
end Go.Proofs.Tz
