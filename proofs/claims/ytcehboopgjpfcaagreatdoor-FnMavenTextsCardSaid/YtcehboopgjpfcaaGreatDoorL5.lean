/- The walk of FnMavenNumberParts. -/
import Derived.Test.YtcehboopgjpfcaaGreatDoorLA
namespace Go.Proofs.Tz
open Go.RowKit Mv

theorem dec_len_pow : ∀ (k n : Nat), n < 10 ^ (k + 1) → (dec n).length ≤ k + 1
  | 0, n, h => by rw [dec_lt (by omega)]; simp
  | k + 1, n, h => by
    by_cases h0 : n < 10
    · rw [dec_lt h0]; simp
    · rw [dec_ge h0, List.length_append]
      have := dec_len_pow k (n / 10) (by rw [Nat.pow_succ] at h; omega)
      simp only [List.length_singleton]; omega
theorem take_all' {α : Type} {l : List α} {P : α → Prop} {i : Nat} {c : α} (h : ∀ x ∈ l.take i, P x) (hc : l[i]? = some c) (hp : P c) : ∀ x ∈ l.take (i + 1), P x := by
  intro x hx
  rw [take_snoc hc] at hx
  rcases List.mem_append.1 hx with hx | hx
  · exact h x hx
  · simp at hx; subst hx; exact hp
/-- A slice that reads as numbers. -/
def RowN (k : IntKind) (w : World) (a : Option Addr) (L : List Nat) : Prop := ∀ (i n : Nat), L[i]? = some n → ∃ b o, a = some ⟨b, o, none⟩ ∧ w.cell? ⟨b, o + i, none⟩ = some (.int k (n : Int))
def RowB (w : World) (a : Option Addr) (L : List Bool) : Prop := ∀ (i : Nat) (n : Bool), L[i]? = some n → ∃ b o, a = some ⟨b, o, none⟩ ∧ w.cell? ⟨b, o + i, none⟩ = some (.bool n)
theorem RowN.below {k : IntKind} {w w' : World} {a : Option Addr} {L : List Nat} (h : RowN k w a L) (hb : Below w.heap.size w w') : RowN k w' a L := fun i n hi => by
  obtain ⟨b, o, h1, h2⟩ := h i n hi
  exact ⟨b, o, h1, cell_keep hb h2⟩
theorem RowB.below {w w' : World} {a : Option Addr} {L : List Bool} (h : RowB w a L) (hb : Below w.heap.size w w') : RowB w' a L := fun i n hi => by
  obtain ⟨b, o, h1, h2⟩ := h i n hi
  exact ⟨b, o, h1, cell_keep hb h2⟩

/-- The pieces of numbers with marks between. -/
def pfx (hy : List Bool) (i : Nat) : Bs := if i = 0 then [] else if hy[i]? = some true then [45] else [46]
def npcs (hy : List Bool) : Nat → List Nat → List Pc
  | _, [] => []
  | i, n :: r => ⟨pfx hy i, dec n⟩ :: npcs hy (i + 1) r
theorem npcs_get (hy : List Bool) : ∀ (L : List Nat) (j i : Nat), (npcs hy j L)[i]? = L[i]?.map fun n => ⟨pfx hy (j + i), dec n⟩
  | [], j, i => by simp [npcs]
  | n :: r, j, 0 => by simp [npcs]
  | n :: r, j, i + 1 => by
    rw [npcs, List.getElem?_cons_succ, List.getElem?_cons_succ, npcs_get hy r (j + 1) i, show j + 1 + i = j + (i + 1) by omega]
theorem npcs_len (hy : List Bool) : ∀ (L : List Nat) (j : Nat), (npcs hy j L).length = L.length
  | [], _ => rfl
  | n :: r, j => by simp [npcs, npcs_len hy r]
def ptk (x : Pc) : Tok := ⟨x.m, x.q, false⟩
theorem npcs_mem (hy : List Bool) : ∀ (L : List Nat) (j : Nat), ∀ x ∈ npcs hy j L, ∃ i n, n ∈ L ∧ x = ⟨pfx hy (j + i), dec n⟩
  | [], _, x, h => by simp [npcs] at h
  | n :: r, j, x, h => by
    rcases List.mem_cons.1 h with rfl | h
    · exact ⟨0, n, by simp, rfl⟩
    · obtain ⟨i, m, h1, h2⟩ := npcs_mem hy r (j + 1) x h
      exact ⟨i + 1, m, by simp [h1], by rw [h2, show j + 1 + i = j + (i + 1) by omega]⟩
theorem parts_law {hy : List Bool} {L : List Nat} (h0 : L ≠ []) (hn : ∀ n ∈ L, n ≠ 0) : mvTokens (ptxt (npcs hy 0 L)) = (npcs hy 0 L).map ptk := by
  obtain ⟨n, r, rfl⟩ := List.exists_cons_of_ne_nil h0
  rw [npcs]
  rw [digit_pcs rfl (fun x hx => ?_) (fun x hx => ?_)]
  · refine List.map_congr_left fun x hx => ?_
    rw [← npcs] at hx
    obtain ⟨i, m, _, rfl⟩ := npcs_mem hy _ _ x hx
    simp only [ptk, dval_dec]
  · obtain ⟨i, m, _, rfl⟩ := npcs_mem hy _ _ x hx
    unfold pfx
    rw [if_neg (by omega)]
    split
    · exact .inl rfl
    · exact .inr rfl
  · rw [← npcs] at hx
    obtain ⟨i, m, hm, rfl⟩ := npcs_mem hy _ _ x hx
    exact ⟨dec_ne_nil m, dec_dig m, by rw [dval_dec]; exact hn m hm⟩

theorem parts_nums {hy : List Bool} {L : List Nat} {V : Nat} (h0 : L ≠ []) (hn : ∀ n ∈ L, n < V) : Nums V (ptxt (npcs hy 0 L)) := by
  obtain ⟨n, r, rfl⟩ := List.exists_cons_of_ne_nil h0
  intro t ht _
  have hm : ∀ x ∈ npcs hy (0 + 1) r, x.m = [45] ∨ x.m = [46] := by
    intro x hx
    obtain ⟨i, m, _, rfl⟩ := npcs_mem hy _ _ x hx
    unfold pfx
    rw [if_neg (by omega)]
    split
    · exact .inl rfl
    · exact .inr rfl
  have hd : ∀ x ∈ npcs hy 0 (n :: r), ∃ m, m ∈ n :: r ∧ x.q = dec m := by
    intro x hx
    obtain ⟨i, m, h1, rfl⟩ := npcs_mem hy _ _ x hx
    exact ⟨m, h1, rfl⟩
  rw [npcs] at ht
  rw [tokR_pcs rfl (pcOk_marked _ _ hm fun x hx => by rw [← npcs] at hx; obtain ⟨m, _, h⟩ := hd x hx; exact ⟨true, by rw [h]; exact hom_dec m⟩), ptoks_marked _ _ _ hm] at ht
  rcases List.mem_cons.1 ht with rfl | ht
  · show dval (nv (lower (dec n)) false) < V
    rw [nv_dec, dval_dec]; exact hn n (by simp)
  · obtain ⟨x, hx, rfl⟩ := List.mem_map.1 ht
    obtain ⟨m, h1, h2⟩ := hd x (by rw [npcs]; exact List.mem_cons_of_mem _ hx)
    show dval (nv (lower x.q) false) < V
    rw [h2, nv_dec, dval_dec]; exact hn m h1
theorem asc_dig {c : UInt8} (h : isDig c = true) : c.toNat < 128 := by have := (isDig_iff c).1 h; omega
theorem parts_asc (hy : List Bool) (L : List Nat) : Asc (ptxt (npcs hy 0 L)) := by
  intro c hc
  obtain ⟨x, hx, hc⟩ := List.mem_flatMap.1 hc
  obtain ⟨i, m, _, rfl⟩ := npcs_mem hy _ _ x hx
  rcases List.mem_append.1 hc with hc | hc
  · simp only [pfx] at hc
    split at hc
    · simp at hc
    · split at hc <;> simp at hc <;> subst hc <;> decide
  · exact asc_dig (dec_dig m c hc)

set_option maxHeartbeats 4000000 in
set_option maxRecDepth 100000 in
theorem numberParts_walk (K : Nat) (hK : 1 ≤ K) (HI : ItoaSaid K) (a0 : Option Addr) (c0 : Nat) (L : List Nat) (a1 : Option Addr) (c1 : Nat) (hy : List Bool) (w : World) (hE : EnvL w)
    (h0 : RowN .u16 w a0 L) (h1 : RowB w a1 hy) (hL : ∀ n ∈ L, n < 65536) (hl : L.length ≤ 9223372036854775807) (hh : hy.length ≤ 9223372036854775807) :
    Calls Tryz.prog 5 #[.slice a0 L.length c0, .slice a1 hy.length c1] w fun e w' => e = .returned (.bool true) ∧ Below w.heap.size w w' := by
  by_cases g1 : L.length ≤ 60 ∧ 0 < L.length ∧ hy.length ≤ 2147483647
  · obtain ⟨g1, g2, g3⟩ := g1
    obtain ⟨i40, z40, hi40, hz40, hs40, hb40, hc40⟩ := info40
    have H0 := Lib.hid h0
    have H1 := Lib.hid h1
    have HE := Lib.hid hE
    have HHI := Lib.hid HI
    have HL := Lib.hid hL
    have hne : L ≠ [] := by rintro rfl; simp at g2
    have hz : ((L.length : Int) == 0) = false := by simp [hne]
    have HNE := Lib.hid hne
    clear h0 h1 hE HI hL hne
    go_enter Tryz.func5, Tryz.ntmps5
    go_wp2_with fail
    obtain ⟨wo, rfl⟩ : ∃ wo : World, wo = w := ⟨_, rfl⟩
    go_loopw [5, 6, 28] (fun s v x wr => ∃ (vo : Value) (i : Nat), vo = v ∧ x = .int .i64 (i : Int) ∧ i ≤ L.length ∧ s = .string (str (ptxt ((npcs hy 0 L).take i))) ∧ (ptxt ((npcs hy 0 L).take i)).length ≤ i * 6 ∧ Hid (∀ n ∈ L.take i, n ≠ 0) ∧ Hid (wr.ownsRow wo.heap.size 40 3 vo i (tcs (((npcs hy 0 L).take i).map ptk))) ∧ Hid (Below wo.heap.size wo wr)) (fun _ _ x _ => L.length - (intOf x).toNat)
    case atStart => exact ⟨_, 0, rfl, rfl, Nat.zero_le _, rfl, by simp [ptxt], Lib.hid (by simp), Lib.hid (World.ownsRow_nil _ _ _ _), Lib.hid (Below.refl _ _)⟩
    case round =>
      obtain ⟨vo, i, rfl, rfl, hi, rfl, hlen, J1, J2, J3⟩ := hrel
      by_cases hil : i < L.length
      · obtain ⟨n, hn⟩ : ∃ n, L[i]? = some n := ⟨_, List.getElem?_eq_getElem hil⟩
        obtain ⟨b, o, hb, hcell⟩ := (H0.out.below J3.out) i n hn
        have hn6 := HL.out n (List.mem_of_getElem? hn)
        subst hb
        have HN := Lib.hid hn
        clear hn
        go_wp2_with fail
        (with_reducible refine (decimal_any n hn6 _).mono ?_)
        rintro e w1 ⟨rfl, rfl⟩
        go_upto_if 37 with fail
        go_cut [9] from 37 to 49 (fun p wx => p = .pointer (some ⟨wr.heap.size, 0, none⟩) ∧ Hid (Arr wx wr.heap.size 40 [sv (pfx hy i), sv (dec n), .bool false]) ∧ Hid (wr.grownBy wx (some wr.heap.size)) ∧ wx.heap.size = wr.heap.size + 1)
        case first =>
          have hA : Arr (wr.alloc (Obj.cells #[Value.string (str []), Value.string (str (dec n)), Value.bool false] 40)) wr.heap.size 40 [sv [], sv (dec n), .bool false] := Arr.new _ _ _
          have hG : wr.grownBy (wr.alloc (Obj.cells #[Value.string (str []), Value.string (str (dec n)), Value.bool false] 40)) (some wr.heap.size) := ⟨rfl, rfl, rfl, by rw [size_alloc]; omega, fun k hk _ => Below.heap_alloc _ _ k hk⟩
          have c0' := hA.cell (j := 0) rfl
          have cf := hA.free 0
          have HA := Lib.hid hA
          have HG := Lib.hid hG
          clear hA hG
          by_cases hi0 : i = 0
          · subst hi0
            go_wp2_with fail
            go_meet
            exact ⟨rfl, Lib.hid HA.out, Lib.hid HG.out, size_alloc _ _⟩
          · have hip : (0 : Int) < (i : Int) := by omega
            by_cases hih : i < hy.length
            · obtain ⟨bb, hbb⟩ : ∃ bb, hy[i]? = some bb := ⟨_, List.getElem?_eq_getElem hih⟩
              obtain ⟨b', o', hb', hcell'⟩ := (H1.out.below J3.out) i bb hbb
              subst hb'
              have hblt := World.block_lt_of_cell? _ _ hcell'
              cases bb
              · have hpf : pfx hy i = [46] := by rw [pfx, if_neg hi0, if_neg (by rw [hbb]; simp)]
                have HPF := Lib.hid hpf
                clear hpf hbb
                go_wp2_with fail
                go_meet
                rw [HPF.out]
                exact ⟨rfl, Lib.hid (Arr.new _ _ _), Lib.hid ⟨rfl, rfl, rfl, by rw [size_alloc]; omega, fun k hk _ => Below.heap_alloc _ _ k hk⟩, size_alloc _ _⟩
              · have hpf : pfx hy i = [45] := by rw [pfx, if_neg hi0, if_pos hbb]
                have HPF := Lib.hid hpf
                clear hpf hbb
                go_wp2_with fail
                go_meet
                rw [HPF.out]
                exact ⟨rfl, Lib.hid (Arr.new _ _ _), Lib.hid ⟨rfl, rfl, rfl, by rw [size_alloc]; omega, fun k hk _ => Below.heap_alloc _ _ k hk⟩, size_alloc _ _⟩
            · have hpf : pfx hy i = [46] := by rw [pfx, if_neg hi0, if_neg (by rw [List.getElem?_eq_none (by omega)]; simp)]
              have HPF := Lib.hid hpf
              clear hpf
              go_wp2_with fail
              go_meet
              rw [HPF.out]
              exact ⟨rfl, Lib.hid (Arr.new _ _ _), Lib.hid ⟨rfl, rfl, rfl, by rw [size_alloc]; omega, fun k hk _ => Below.heap_alloc _ _ k hk⟩, size_alloc _ _⟩
        case rest =>
          obtain ⟨rfl, K1, K2, hszx⟩ := hcut
          have hszx2 : wr.heap.size + 1 ≤ wc.heap.size := by omega
          have HSZ := Lib.hid hszx
          clear hszx
          have hszo : wo.heap.size ≤ wr.heap.size := J3.out.size
          have hBc : Below wo.heap.size wo wc := J3.out.grown K2.out hszo (fun j hj => by injection hj with hj; omega)
          have HBC := Lib.hid hBc
          by_cases hn0 : n = 0
          · have hq : ((n : Int) == 0) = true := by simp [hn0]
            clear hn0 hBc
            go_wp2_with fail
            go_ret
            exact ⟨rfl, HBC.out⟩
          · have hq : ((n : Int) == 0) = false := by simp [hn0]
            have HN0 := Lib.hid hn0
            have hA := K1.out
            have hc0 := hA.cell (j := 0) rfl
            have hc1 := hA.cell (j := 1) rfl
            have hc2 := hA.cell (j := 2) rfl
            have hJ : wc.ownsRow wo.heap.size 40 3 vo i (tcs (((npcs hy 0 L).take i).map ptk)) := J2.out.kept K2.out (by
              cases hv : vo.ownBlock with
              | none => exact .inl rfl
              | some g => right; intro e; injection e with e; have := (J2.out.lt g hv).2; omega)
            have HJ := Lib.hid hJ
            have hne2 : some wr.heap.size ≠ vo.ownBlock := by intro e; have := (J2.out.lt _ e.symm).2; omega
            have HNE2 := Lib.hid hne2
            have hss := str_size
            have hpl : (pfx hy i).length ≤ 1 := by unfold pfx; split; simp; split <;> simp
            have hdl : (dec n).length ≤ 5 := dec_len_pow 4 n (by omega)
            clear hn0 hA hBc hJ hne2
            go_wp2_with (first | (at_builtin; refine wpList_append_lies _ rfl (.tmp 52) (.tmp 54) 28 rfl wo.heap.size 40 i40 z40 3 40 Tryz.underlying28 hi40 hz40 hs40 hb40 hc40 (by decide) vo i (tcs (((npcs hy 0 L).take i).map ptk)) rfl (HJ.out.alloc _) ⟨wc.heap.size, 0, none⟩ 1 1 [sv (pfx hy i), sv (dec n), .bool false] rfl rfl (World.news_of_block (cs := #[sv (pfx hy i), sv (dec n), .bool false]) (t := 40) (fr := (0, 0)) (heap_alloc_new _ _)) (by intro u hu; simp at hu; rcases hu with rfl | rfl | rfl <;> rfl) (by decide) (by unfold maxLen; omega) (by omega) (by simp; omega) _ rfl ?_; intro gg cc w3 hown3 hgrow3 hat3 hlt3; have hA3 := (K1.out.alloc (Obj.cells #[sv (pfx hy i), sv (dec n), Value.bool false] 40)).other hgrow3 HNE2.out; have c30 : w3.cell? ⟨wr.heap.size, 0, none⟩ = some (.string (str (pfx hy i))) := hA3.cell (j := 0) rfl; have c31 : w3.cell? ⟨wr.heap.size, 1, none⟩ = some (.string (str (dec n))) := hA3.cell (j := 1) rfl; clear hA3))
            have hpc : (npcs hy 0 L)[i]? = some ⟨pfx hy i, dec n⟩ := by rw [npcs_get, HN.out, Nat.zero_add]; rfl
            have hB3 : Below wo.heap.size wo w3 := (HBC.out.alloc (by omega) _).grown hgrow3 (by rw [size_alloc]; omega) (fun j hj => (J2.out.lt j hj).1)
            have hO3 : w3.ownsRow wo.heap.size 40 3 (.slice (some ⟨gg, 0, none⟩) (i + 1) cc) (i + 1) (tcs (((npcs hy 0 L).take (i + 1)).map ptk)) := by
              rw [take_snoc hpc, List.map_append, tcs_append]; exact hown3
            have hT3 : ptxt ((npcs hy 0 L).take (i + 1)) = ptxt ((npcs hy 0 L).take i) ++ (pfx hy i ++ dec n) := by rw [take_snoc hpc, ptxt_append]; simp [ptxt]
            have HB3 := Lib.hid hB3
            have HO3 := Lib.hid hO3
            have HT3 := Lib.hid hT3
            have HN3 : Hid (∀ x ∈ L.take (i + 1), x ≠ 0) := Lib.hid (take_all' J1.out HN.out HN0.out)
            clear hB3 hO3 hown3 hgrow3 hat3 hlt3 hpc hT3
            go_wp2_with fail
            go_roundw
            case rel =>
              refine ⟨_, i + 1, rfl, by go_num, by omega, ?_, ?_, HN3, HO3, HB3⟩
              · rw [HT3.out, str_append, str_append]
              · rw [HT3.out, List.length_append, List.length_append]; omega
            case measure => simp [intOf]; omega
      · have hie : i = L.length := by omega
        have HIE := Lib.hid hie
        have hfull : (npcs hy 0 L).take i = npcs hy 0 L := List.take_of_length_le (by rw [npcs_len]; omega)
        rw [hfull] at hlen
        have hnz : ∀ n ∈ L, n ≠ 0 := by have := J1.out; rwa [List.take_of_length_le (by omega)] at this
        have hpar := mparse_any K HHI.out (ptxt (npcs hy 0 L)) (by omega) (parts_asc hy L) (parts_nums HNE.out (fun n hn => Nat.lt_of_lt_of_le (HL.out n hn) (Nat.le_trans (by decide : 65536 ≤ WB) (by
          calc WB = WB ^ 1 := (Nat.pow_one _).symm
            _ ≤ WB ^ K := Nat.pow_le_pow_right WB_pos hK)))) wr (HE.out.below J3.out)
        have hml := mv_len (ptxt (npcs hy 0 L))
        rw [parts_law HNE.out hnz] at hpar hml
        have HPA := Lib.hid hpar
        have HF := Lib.hid hfull
        have hml2 : ((npcs hy 0 L).map ptk).length ≤ 1000000 := by omega
        have HJ : Hid (Toks 40 wr wo.heap.size vo ((npcs hy 0 L).map ptk)) := by
          have h2 := J2.out
          rw [hfull] at h2
          have e : i = ((npcs hy 0 L).map ptk).length := by rw [List.length_map, npcs_len]; exact hie
          rw [e] at h2
          exact Lib.hid h2
        rw [hfull]
        clear hpar hfull hnz hie hml
        go_wp2_with fail
        (with_reducible refine (HPA.out).mono ?_)
        rintro e w1 ⟨v, rfl, hT, hB⟩
        have hT2 := HJ.out.below hB
        have htok := tokens_any _ _ _ _ _ _ w1 hT hT2 hml2 hml2
        have HTO := Lib.hid htok
        have HB := Lib.hid (J3.out.trans (hB.mono J3.out.size))
        clear hT hT2 htok hB
        go_wp2_with fail
        (with_reducible refine (HTO.out).mono ?_)
        rintro e w2 ⟨rfl, hB2⟩
        have HB2 := Lib.hid (HB.out.trans (hB2.mono HB.out.size))
        clear hB2
        go_wp2_with fail
        go_ret
        exact ⟨rfl, HB2.out⟩
  · by_cases p1 : L.length ≤ 2147483647
    · by_cases p2 : hy.length ≤ 2147483647
      · by_cases p3 : L.length = 0
        · have hz : ((L.length : Int) == 0) = true := by rw [p3]; rfl
          have HP := Lib.hid p3
          clear g1 p3
          go_enter Tryz.func5, Tryz.ntmps5
          go_wp2_with fail
          go_ret
          exact ⟨rfl, Below.refl _ _⟩
        · have hz : ((L.length : Int) == 0) = false := beq_eq_false_iff_ne.2 (by omega)
          have p4 : 60 < L.length := by omega
          clear g1 p3
          go_enter Tryz.func5, Tryz.ntmps5
          go_wp2_with fail
          go_ret
          exact ⟨rfl, Below.refl _ _⟩
      · have p4 : 2147483647 < hy.length := by omega
        clear g1 p2
        go_enter Tryz.func5, Tryz.ntmps5
        go_wp2_with fail
        go_ret
        exact ⟨rfl, Below.refl _ _⟩
    · have p4 : 2147483647 < L.length := by omega
      clear g1 p1
      go_enter Tryz.func5, Tryz.ntmps5
      go_wp2_with fail
      go_ret
      exact ⟨rfl, Below.refl _ _⟩
end Go.Proofs.Tz
