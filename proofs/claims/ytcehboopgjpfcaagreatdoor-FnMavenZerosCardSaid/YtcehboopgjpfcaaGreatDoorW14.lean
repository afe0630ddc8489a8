/- The walk of FnMavenZeros. -/
import Derived.Test.YtcehboopgjpfcaaGreatDoorF9
import Derived.Test.YtcehboopgjpfcaaGreatDoorV3
import Derived.Test.YtcehboopgjpfcaaGreatDoorS11
import Derived.Test.YtcehboopgjpfcaaGreatDoorL9
import Derived.BigQuiet
import Derived.Deep.QuietTactic
namespace Go.Proofs.Mv
open Go.Proofs.Tz (pfx npcs npcs_get npcs_len npcs_mem ptk asc_dig)
/-- How many zeros stand ahead. -/
def zk (zs : List Nat) (i : Nat) : Nat := zs.getD i 0 % 5
theorem zk_le (zs : List Nat) (i : Nat) : zk zs i ≤ 4 := by unfold zk; omega
def zpcs (hy : List Bool) (zs : List Nat) : Nat → List Nat → List Pc
  | _, [] => []
  | i, n :: r => ⟨pfx hy i, List.replicate (zk zs i) 48 ++ dec n⟩ :: zpcs hy zs (i + 1) r
theorem zpcs_get (hy : List Bool) (zs : List Nat) : ∀ (L : List Nat) (j i : Nat), (zpcs hy zs j L)[i]? = L[i]?.map fun n => ⟨pfx hy (j + i), List.replicate (zk zs (j + i)) 48 ++ dec n⟩
  | [], j, i => by simp [zpcs]
  | n :: r, j, 0 => by simp [zpcs]
  | n :: r, j, i + 1 => by
    rw [zpcs, List.getElem?_cons_succ, List.getElem?_cons_succ, zpcs_get hy zs r (j + 1) i, show j + 1 + i = j + (i + 1) by omega]
theorem zpcs_len (hy : List Bool) (zs : List Nat) : ∀ (L : List Nat) (j : Nat), (zpcs hy zs j L).length = L.length
  | [], _ => rfl
  | n :: r, j => by simp [zpcs, zpcs_len hy zs r]
theorem zpcs_mem (hy : List Bool) (zs : List Nat) : ∀ (L : List Nat) (j : Nat), ∀ x ∈ zpcs hy zs j L, ∃ i n, n ∈ L ∧ x = ⟨pfx hy (j + i), List.replicate (zk zs (j + i)) 48 ++ dec n⟩
  | [], _, x, h => by simp [zpcs] at h
  | n :: r, j, x, h => by
    rcases List.mem_cons.1 h with rfl | h
    · exact ⟨0, n, by simp, rfl⟩
    · obtain ⟨i, m, h1, h2⟩ := zpcs_mem hy zs r (j + 1) x h
      exact ⟨i + 1, m, by simp [h1], by rw [h2, show j + 1 + i = j + (i + 1) by omega]⟩
theorem zdig {k n : Nat} : ∀ c ∈ List.replicate k (48 : UInt8) ++ dec n, isDig c = true := fun c hc => by
  rcases List.mem_append.1 hc with hc | hc
  · rw [List.eq_of_mem_replicate hc]; decide
  · exact dec_dig n c hc
theorem zpcs_map (hy : List Bool) (zs : List Nat) : ∀ (L : List Nat) (j : Nat), ((zpcs hy zs j L).map fun x => (⟨x.m, dec (dval x.q), false⟩ : Tok)) = (npcs hy j L).map ptk
  | [], _ => rfl
  | n :: r, j => by
    rw [zpcs, npcs, List.map_cons, List.map_cons, zpcs_map hy zs r (j + 1)]
    simp only [dval_zdec, ptk]
theorem pfx_mark {hy : List Bool} {i : Nat} (h : i ≠ 0) : pfx hy i = [45] ∨ pfx hy i = [46] := by
  unfold pfx
  rw [if_neg h]
  split
  · exact .inl rfl
  · exact .inr rfl
theorem zeros_law {hy : List Bool} {zs : List Nat} {L : List Nat} (h0 : L ≠ []) (hn : ∀ n ∈ L, n ≠ 0) : mvTokens (ptxt (zpcs hy zs 0 L)) = (npcs hy 0 L).map ptk := by
  rw [← zpcs_map hy zs]
  obtain ⟨n, r, rfl⟩ := List.exists_cons_of_ne_nil h0
  rw [zpcs]
  refine digit_pcs rfl (fun x hx => ?_) (fun x hx => ?_)
  · obtain ⟨i, m, _, rfl⟩ := zpcs_mem hy zs _ _ x hx
    exact pfx_mark (by omega)
  · rw [← zpcs] at hx
    obtain ⟨i, m, hm, rfl⟩ := zpcs_mem hy zs _ _ x hx
    exact ⟨by intro e; exact dec_ne_nil m (List.append_eq_nil_iff.1 e).2, zdig, by rw [dval_zdec]; exact hn m hm⟩
theorem zpcs_head (hy : List Bool) (zs : List Nat) : ∀ (L : List Nat) (j : Nat), j ≠ 0 → ∀ c, (ptxt (zpcs hy zs j L)).head? = some c → isDig c = false
  | [], _, _, c, h => by simp [zpcs, ptxt] at h
  | n :: r, j, hj, c, h => by
    rw [zpcs, ptxt_cons] at h
    rcases pfx_mark (hy := hy) hj with e | e <;>
    · simp only [e, List.cons_append, List.head?_cons, Option.some.injEq] at h
      rw [← h]; decide
theorem zeros_runs {V : Nat} (hV : 0 < V) (hy : List Bool) (zs : List Nat) : ∀ (L : List Nat) (j : Nat), (∀ n ∈ L, n < V) → Runs V (ptxt (zpcs hy zs j L))
  | [], _, _ => runs_nil hV
  | n :: r, j, hn => by
    rw [zpcs, ptxt_cons]
    have h1 : Runs V (List.replicate (zk zs j) 48 ++ dec n) := runs_digits (by rw [dval_zdec]; exact hn n (by simp))
    have h2 : Runs V (pfx hy j ++ (List.replicate (zk zs j) 48 ++ dec n)) := runs_plain_app hV h1 _ (fun c hc => by
      by_cases hj : j = 0
      · subst hj; simp [pfx] at hc
      · rcases pfx_mark (hy := hy) hj with e | e <;> (rw [e] at hc; simp at hc; subst hc; decide))
    exact runs_app h2 (zeros_runs hV hy zs r (j + 1) (fun m hm => hn m (by simp [hm]))) (zpcs_head hy zs r (j + 1) (by omega))
theorem zeros_asc (hy : List Bool) (zs : List Nat) (L : List Nat) : Asc (ptxt (zpcs hy zs 0 L)) := by
  intro c hc
  obtain ⟨x, hx, hc⟩ := List.mem_flatMap.1 hc
  obtain ⟨i, m, _, rfl⟩ := zpcs_mem hy zs _ _ x hx
  rcases List.mem_append.1 hc with hc | hc
  · by_cases hj : 0 + i = 0
    · simp only [hj] at hc; simp [pfx] at hc
    · rcases pfx_mark (hy := hy) hj with e | e <;> (simp only [e] at hc; simp at hc; subst hc; decide)
  · exact asc_dig (zdig c hc)
end Go.Proofs.Mv
namespace Go.Proofs.Tz
open Go.RowKit Mv

set_option maxHeartbeats 16000000 in
set_option maxRecDepth 100000 in
theorem zeros_walk (K : Nat) (hK : 1 ≤ K) (HI : ItoaSaid K) (a0 : Option Addr) (c0 : Nat) (L : List Nat) (a2 : Option Addr) (c2 : Nat) (zs : List Nat) (a1 : Option Addr) (c1 : Nat) (hy : List Bool) (w : World) (hE : EnvL w) (hKw : KwAt w)
    (h0 : RowN .u16 w a0 L) (hL : ∀ n ∈ L, n < 65536) (h2 : RowN .u8 w a2 zs) (hz2 : ∀ n ∈ zs, n < 256) (h1 : RowB w a1 hy) (hl : L.length ≤ 9223372036854775807) (hzl : zs.length ≤ 9223372036854775807) (hh : hy.length ≤ 9223372036854775807) :
    Calls Tryz.prog 14 #[.slice a0 L.length c0, .slice a2 zs.length c2, .slice a1 hy.length c1] w fun e w' => e = .returned (.bool true) ∧ Below w.heap.size w w' := by
  by_cases g1 : L.length ≤ 60 ∧ 0 < L.length ∧ hy.length ≤ 2147483647 ∧ zs.length ≤ 2147483647
  · obtain ⟨g1, g2, g3, g4⟩ := g1
    obtain ⟨i40, z40, hi40, hz40, hs40, hb40, hc40⟩ := info40
    have hss := str_size
    have H0 := Lib.hid h0
    have H1 := Lib.hid h1
    have H2 := Lib.hid h2
    have HE := Lib.hid hE
    have HKw := Lib.hid hKw
    have HHI := Lib.hid HI
    have HL := Lib.hid hL
    have HZ2 := Lib.hid hz2
    have hne : L ≠ [] := by rintro rfl; simp at g2
    have hz : ((L.length : Int) == 0) = false := by simp [hne]
    have HNE := Lib.hid hne
    clear h0 h1 h2 hE hKw HI hL hz2 hne
    go_enter Tryz.func14, Tryz.ntmps14
    go_wp2_with fail
    obtain ⟨wo, rfl⟩ : ∃ wo : World, wo = w := ⟨_, rfl⟩
    go_loopw [7, 8, 9, 39] (fun s t v x wr => ∃ (vo : Value) (i : Nat), vo = v ∧ x = .int .i64 (i : Int) ∧ i ≤ L.length ∧ s = .string (str (ptxt ((zpcs hy zs 0 L).take i))) ∧ t = .string (str (ptxt ((npcs hy 0 L).take i))) ∧ (ptxt ((zpcs hy zs 0 L).take i)).length ≤ i * 10 ∧ (ptxt ((npcs hy 0 L).take i)).length ≤ i * 6 ∧ Hid (∀ n ∈ L.take i, n ≠ 0) ∧ Hid (wr.ownsRow wo.heap.size 40 3 vo i (tcs (((npcs hy 0 L).take i).map ptk))) ∧ Hid (Below wo.heap.size wo wr)) (fun _ _ _ x _ => L.length - (intOf x).toNat)
    case atStart => exact ⟨_, 0, rfl, rfl, Nat.zero_le _, rfl, rfl, by simp [ptxt], by simp [ptxt], Lib.hid (by simp), Lib.hid (World.ownsRow_nil _ _ _ _), Lib.hid (Below.refl _ _)⟩
    case round =>
      obtain ⟨vo, i, rfl, rfl, hi, rfl, rfl, hlen, hlen2, J1, J2, J3⟩ := hrel
      obtain ⟨sS, hsS⟩ : ∃ x, x = ptxt ((zpcs hy zs 0 L).take i) := ⟨_, rfl⟩
      obtain ⟨sT, hsT⟩ : ∃ x, x = ptxt ((npcs hy 0 L).take i) := ⟨_, rfl⟩
      rw [← hsS] at hlen ⊢
      rw [← hsT] at hlen2 ⊢
      have HS := Lib.hid hsS
      have HTT := Lib.hid hsT
      clear hsS hsT
      by_cases hil : i < L.length
      · obtain ⟨n, hn⟩ : ∃ n, L[i]? = some n := ⟨_, List.getElem?_eq_getElem hil⟩
        obtain ⟨b, o, hb, hcell⟩ := (H0.out.below J3.out) i n hn
        have hn6 := HL.out n (List.mem_of_getElem? hn)
        subst hb
        have HN := Lib.hid hn
        clear hn
        by_cases hn0 : n = 0
        · have hq : ((n : Int) == 0) = true := by simp [hn0]
          clear hn0
          go_wp2_with fail
          go_ret
          exact ⟨rfl, J3.out⟩
        have hq : ((n : Int) == 0) = false := by simp [hn0]
        have HN0 := Lib.hid hn0
        clear hn0
        go_wp2_with fail
        (with_reducible refine (decimal_any n hn6 _).mono ?_)
        rintro e w1 ⟨rfl, rfl⟩
        go_upto_if 50 with fail
        go_cut [12] from 50 to 62 (fun p wx => p = .pointer (some ⟨wr.heap.size, 0, none⟩) ∧ Hid (Arr wx wr.heap.size 40 [sv (pfx hy i), sv (dec n), .bool false]) ∧ Hid (wr.grownBy wx (some wr.heap.size)) ∧ wx.heap.size = wr.heap.size + 1)
        case first =>
          have hA : Arr (wr.alloc (Obj.cells #[Value.string (str []), Value.string (str (dec n)), Value.bool false] 40)) wr.heap.size 40 [sv [], sv (dec n), .bool false] := Arr.new _ _ _
          have hG : wr.grownBy (wr.alloc (Obj.cells #[Value.string (str []), Value.string (str (dec n)), Value.bool false] 40)) (some wr.heap.size) := ⟨rfl, rfl, rfl, by rw [size_alloc]; omega, fun k hk _ => Below.heap_alloc _ _ k hk⟩
          have c0' := hA.cell (j := 0) rfl
          have cf := hA.free 0
          have HA := Lib.hid hA
          have HG := Lib.hid hG
          clear hA hG
          by_cases hi0 : i = 0
          · subst hi0
            go_wp2_with fail
            go_meet
            exact ⟨rfl, Lib.hid HA.out, Lib.hid HG.out, size_alloc _ _⟩
          · have hip : (0 : Int) < (i : Int) := by omega
            by_cases hih : i < hy.length
            · obtain ⟨bb, hbb⟩ : ∃ bb, hy[i]? = some bb := ⟨_, List.getElem?_eq_getElem hih⟩
              obtain ⟨b', o', hb', hcell'⟩ := (H1.out.below J3.out) i bb hbb
              subst hb'
              have hblt := World.block_lt_of_cell? _ _ hcell'
              cases bb
              · have hpf : pfx hy i = [46] := by rw [pfx, if_neg hi0, if_neg (by rw [hbb]; simp)]
                have HPF := Lib.hid hpf
                clear hpf hbb
                go_wp2_with fail
                go_meet
                rw [HPF.out]
                exact ⟨rfl, Lib.hid (Arr.new _ _ _), Lib.hid ⟨rfl, rfl, rfl, by rw [size_alloc]; omega, fun k hk _ => Below.heap_alloc _ _ k hk⟩, size_alloc _ _⟩
              · have hpf : pfx hy i = [45] := by rw [pfx, if_neg hi0, if_pos hbb]
                have HPF := Lib.hid hpf
                clear hpf hbb
                go_wp2_with fail
                go_meet
                rw [HPF.out]
                exact ⟨rfl, Lib.hid (Arr.new _ _ _), Lib.hid ⟨rfl, rfl, rfl, by rw [size_alloc]; omega, fun k hk _ => Below.heap_alloc _ _ k hk⟩, size_alloc _ _⟩
            · have hpf : pfx hy i = [46] := by rw [pfx, if_neg hi0, if_neg (by rw [List.getElem?_eq_none (by omega)]; simp)]
              have HPF := Lib.hid hpf
              clear hpf
              go_wp2_with fail
              go_meet
              rw [HPF.out]
              exact ⟨rfl, Lib.hid (Arr.new _ _ _), Lib.hid ⟨rfl, rfl, rfl, by rw [size_alloc]; omega, fun k hk _ => Below.heap_alloc _ _ k hk⟩, size_alloc _ _⟩
        case rest =>
          obtain ⟨rfl, K1, K2, hszx⟩ := hcut
          have hszx2 : wr.heap.size + 1 ≤ wc.heap.size := by omega
          have HSZ := Lib.hid hszx
          clear hszx
          have hszo : wo.heap.size ≤ wr.heap.size := J3.out.size
          have hBc : Below wo.heap.size wo wc := J3.out.grown K2.out hszo (fun j hj => by injection hj with hj; omega)
          have HBC := Lib.hid hBc
          have hA := K1.out
          have hc0 := hA.cell (j := 0) rfl
          have hc1 := hA.cell (j := 1) rfl
          have hc2 := hA.cell (j := 2) rfl
          have hJ : wc.ownsRow wo.heap.size 40 3 vo i (tcs (((npcs hy 0 L).take i).map ptk)) := J2.out.kept K2.out (by
            cases hv : vo.ownBlock with
            | none => exact .inl rfl
            | some g => right; intro e; injection e with e; have := (J2.out.lt g hv).2; omega)
          have HJ := Lib.hid hJ
          have hpl : (pfx hy i).length ≤ 1 := by unfold pfx; split; simp; split <;> simp
          have hdl : (dec n).length ≤ 5 := dec_len_pow 4 n (by omega)
          clear hA hBc hJ
          unfold sv at hc0 hc1
          go_wp2_with fail
          go_quiet (fail)
          go_wp2_with fail
          obtain ⟨w9, hw9⟩ : ∃ x, x = wc.drewN nq := ⟨_, rfl⟩
          have HB9 : Hid (Below wo.heap.size wo w9) := by rw [hw9]; exact Lib.hid (below_drewN' HBC.out _)
          have HJ9 : Hid (w9.ownsRow wo.heap.size 40 3 vo i (tcs (((npcs hy 0 L).take i).map ptk))) := by rw [hw9]; exact HJ
          have HA9 : Hid (Arr w9 wr.heap.size 40 [sv (pfx hy i), sv (dec n), .bool false]) := by rw [hw9]; exact Lib.hid (K1.out.drewN _)
          have hsz9 : wr.heap.size + 1 ≤ w9.heap.size := by rw [hw9]; exact Nat.le_of_eq HSZ.out.symm
          rw [← hw9]
          have hc0 := HA9.out.cell (j := 0) rfl
          have hc1 := HA9.out.cell (j := 1) rfl
          have hc2 := HA9.out.cell (j := 2) rfl
          have HZ : Hid (∀ z, zs[i]? = some z → zk zs i = z % 5) := Lib.hid (fun z h => by rw [zk, List.getD_eq_getElem?_getD, h]; rfl)
          have HZN : Hid (zs.length ≤ i → zk zs i = 0) := Lib.hid (fun h => by rw [zk, List.getD_eq_getElem?_getD, List.getElem?_eq_none h]; rfl)
          have hzk4 := zk_le zs i
          clear hw9
          go_loop [7, 13] (fun s k => ∃ q : Nat, s = .string (str (sS ++ pfx hy i ++ List.replicate q 48)) ∧ k = .int .i64 (q : Int) ∧ q ≤ zk zs i) (fun _ k => zk zs i - (intOf k).toNat)
          case atStart => exact ⟨0, by rw [str_append]; simp, rfl, Nat.zero_le _⟩
          case round =>
            obtain ⟨q, rfl, rfl, hq2⟩ := hrel
            have hsl : (sS ++ pfx hy i ++ List.replicate q 48).length ≤ i * 10 + 5 := by rw [List.length_append, List.length_append, List.length_replicate]; omega
            obtain ⟨sR, hsR⟩ : ∃ x, x = sS ++ pfx hy i ++ List.replicate q 48 := ⟨_, rfl⟩
            rw [← hsR] at hsl ⊢
            have HSR := Lib.hid hsR
            clear hsR
            by_cases hzi : i < zs.length
            · obtain ⟨z, hzz⟩ : ∃ z, zs[i]? = some z := ⟨_, List.getElem?_eq_getElem hzi⟩
              have hzke := HZ.out z hzz
              have hz256 := HZ2.out z (List.mem_of_getElem? hzz)
              obtain ⟨b', o', hb', hcz⟩ := (H2.out.below HB9.out) i z hzz
              subst hb'
              clear hzz
              by_cases hqz : q < zk zs i
              · have hm1 : q < z % 5 := by omega
                have hm2 : (q : Int) < (z : Int) % 5 := by omega
                go_wp2_with fail
                go_round
                case rel => exact ⟨q + 1, by rw [HSR.out, List.replicate_succ', ← List.append_assoc]; exact congrArg Value.string (str_append _ [48]), by go_num, by omega⟩
                case measure => simp [intOf]; omega
              · have hm1 : ¬ q < z % 5 := by omega
                have hm2 : ¬ (q : Int) < (z : Int) % 5 := by omega
                have hqe : q = zk zs i := by omega
                have HQE := Lib.hid hqe
                clear hqe
                go_wp2_with fail
                (with_reducible refine (decimal_any n hn6 _).mono ?_)
                rintro e w1 ⟨rfl, rfl⟩
                go_wp2_with fail
                (with_reducible refine (decimal_any n hn6 _).mono ?_)
                rintro e w1 ⟨rfl, rfl⟩
                go_wp2_with (first | (at_builtin; refine wpList_append_lies _ rfl (.tmp 97) (.tmp 99) 28 rfl wo.heap.size 40 i40 z40 3 40 Tryz.underlying28 hi40 hz40 hs40 hb40 hc40 (by decide) vo i (tcs (((npcs hy 0 L).take i).map ptk)) rfl (HJ9.out.alloc _) ⟨w9.heap.size, 0, none⟩ 1 1 [sv (pfx hy i), sv (dec n), .bool false] rfl rfl (World.news_of_block (cs := #[sv (pfx hy i), sv (dec n), .bool false]) (t := 40) (fr := (0, 0)) (heap_alloc_new _ _)) (by intro u hu; simp at hu; rcases hu with rfl | rfl | rfl <;> rfl) (by decide) (by unfold maxLen; omega) (by omega) (by simp; omega) _ rfl ?_; intro gg cc w3 hown3 hgrow3 hat3 hlt3))
                have hpc : (npcs hy 0 L)[i]? = some ⟨pfx hy i, dec n⟩ := by rw [npcs_get, HN.out, Nat.zero_add]; rfl
                have hpz : (zpcs hy zs 0 L)[i]? = some ⟨pfx hy i, List.replicate (zk zs i) 48 ++ dec n⟩ := by rw [zpcs_get, HN.out, Nat.zero_add]; rfl
                have hB3 : Below wo.heap.size wo w3 := (HB9.out.alloc (by omega) _).grown hgrow3 (by rw [size_alloc]; omega) (fun j hj => (J2.out.lt j hj).1)
                have hO3 : w3.ownsRow wo.heap.size 40 3 (.slice (some ⟨gg, 0, none⟩) (i + 1) cc) (i + 1) (tcs (((npcs hy 0 L).take (i + 1)).map ptk)) := by
                  rw [take_snoc hpc, List.map_append, tcs_append]; exact hown3
                have hT3 : ptxt ((npcs hy 0 L).take (i + 1)) = sT ++ pfx hy i ++ dec n := by rw [take_snoc hpc, ptxt_append, HTT.out]; simp [ptxt]
                have hS3 : ptxt ((zpcs hy zs 0 L).take (i + 1)) = sR ++ dec n := by rw [take_snoc hpz, ptxt_append, HSR.out, HQE.out, HS.out]; simp [ptxt]
                have HB3 := Lib.hid hB3
                have HO3 := Lib.hid hO3
                have HT3 := Lib.hid hT3
                have HS3 := Lib.hid hS3
                have HN3 : Hid (∀ x ∈ L.take (i + 1), x ≠ 0) := Lib.hid (take_all' J1.out HN.out HN0.out)
                clear hB3 hO3 hown3 hgrow3 hat3 hlt3 hpc hpz hT3 hS3
                go_wp2_with fail
                go_roundw
                case rel =>
                  refine ⟨_, i + 1, rfl, by go_num, by omega, ?_, ?_, ?_, ?_, HN3, HO3, HB3⟩
                  · rw [HS3.out, str_append]
                  · rw [HT3.out, str_append, str_append]
                  · rw [HS3.out, List.length_append]; omega
                  · rw [HT3.out, List.length_append, List.length_append]; omega
                case measure => simp [intOf]; omega
            · have hqe : q = zk zs i := by have := HZN.out (by omega); omega
              have HQE := Lib.hid hqe
              clear hqe
              go_wp2_with fail
              (with_reducible refine (decimal_any n hn6 _).mono ?_)
              rintro e w1 ⟨rfl, rfl⟩
              go_wp2_with fail
              (with_reducible refine (decimal_any n hn6 _).mono ?_)
              rintro e w1 ⟨rfl, rfl⟩
              go_wp2_with (first | (at_builtin; refine wpList_append_lies _ rfl (.tmp 97) (.tmp 99) 28 rfl wo.heap.size 40 i40 z40 3 40 Tryz.underlying28 hi40 hz40 hs40 hb40 hc40 (by decide) vo i (tcs (((npcs hy 0 L).take i).map ptk)) rfl (HJ9.out.alloc _) ⟨w9.heap.size, 0, none⟩ 1 1 [sv (pfx hy i), sv (dec n), .bool false] rfl rfl (World.news_of_block (cs := #[sv (pfx hy i), sv (dec n), .bool false]) (t := 40) (fr := (0, 0)) (heap_alloc_new _ _)) (by intro u hu; simp at hu; rcases hu with rfl | rfl | rfl <;> rfl) (by decide) (by unfold maxLen; omega) (by omega) (by simp; omega) _ rfl ?_; intro gg cc w3 hown3 hgrow3 hat3 hlt3))
              have hpc : (npcs hy 0 L)[i]? = some ⟨pfx hy i, dec n⟩ := by rw [npcs_get, HN.out, Nat.zero_add]; rfl
              have hpz : (zpcs hy zs 0 L)[i]? = some ⟨pfx hy i, List.replicate (zk zs i) 48 ++ dec n⟩ := by rw [zpcs_get, HN.out, Nat.zero_add]; rfl
              have hB3 : Below wo.heap.size wo w3 := (HB9.out.alloc (by omega) _).grown hgrow3 (by rw [size_alloc]; omega) (fun j hj => (J2.out.lt j hj).1)
              have hO3 : w3.ownsRow wo.heap.size 40 3 (.slice (some ⟨gg, 0, none⟩) (i + 1) cc) (i + 1) (tcs (((npcs hy 0 L).take (i + 1)).map ptk)) := by
                rw [take_snoc hpc, List.map_append, tcs_append]; exact hown3
              have hT3 : ptxt ((npcs hy 0 L).take (i + 1)) = sT ++ pfx hy i ++ dec n := by rw [take_snoc hpc, ptxt_append, HTT.out]; simp [ptxt]
              have hS3 : ptxt ((zpcs hy zs 0 L).take (i + 1)) = sR ++ dec n := by rw [take_snoc hpz, ptxt_append, HSR.out, HQE.out, HS.out]; simp [ptxt]
              have HB3 := Lib.hid hB3
              have HO3 := Lib.hid hO3
              have HT3 := Lib.hid hT3
              have HS3 := Lib.hid hS3
              have HN3 : Hid (∀ x ∈ L.take (i + 1), x ≠ 0) := Lib.hid (take_all' J1.out HN.out HN0.out)
              clear hB3 hO3 hown3 hgrow3 hat3 hlt3 hpc hpz hT3 hS3
              go_wp2_with fail
              go_roundw
              case rel =>
                refine ⟨_, i + 1, rfl, by go_num, by omega, ?_, ?_, ?_, ?_, HN3, HO3, HB3⟩
                · rw [HS3.out, str_append]
                · rw [HT3.out, str_append, str_append]
                · rw [HS3.out, List.length_append]; omega
                · rw [HT3.out, List.length_append, List.length_append]; omega
              case measure => simp [intOf]; omega
      · have hie : i = L.length := by omega
        have HIE := Lib.hid hie
        have hfz : (zpcs hy zs 0 L).take i = zpcs hy zs 0 L := List.take_of_length_le (by rw [zpcs_len]; omega)
        have hfn : (npcs hy 0 L).take i = npcs hy 0 L := List.take_of_length_le (by rw [npcs_len]; omega)
        have hsE := HS.out
        have htE := HTT.out
        rw [hfz] at hsE
        rw [hfn] at htE
        have hnz : ∀ n ∈ L, n ≠ 0 := by have := J1.out; rwa [List.take_of_length_le (by omega)] at this
        have hVL : ∀ n ∈ L, n < WB ^ K := fun n hn => Nat.lt_of_lt_of_le (HL.out n hn) (Nat.le_trans (by decide : 65536 ≤ WB) (by
          calc WB = WB ^ 1 := (Nat.pow_one _).symm
            _ ≤ WB ^ K := Nat.pow_le_pow_right WB_pos hK))
        have hmS : mvTokens sS = (npcs hy 0 L).map ptk := by rw [hsE]; exact zeros_law HNE.out hnz
        have hmT : mvTokens sT = (npcs hy 0 L).map ptk := by rw [htE]; exact parts_law HNE.out hnz
        have hsl : sS.length ≤ 100000 := by omega
        have htl2 : sT.length ≤ 100000 := by omega
        have txS : Txt (WB ^ K) sS := ⟨hsl, by rw [hsE]; exact zeros_asc hy zs L, by rw [hsE]; exact nums_runs (Nat.pow_pos WB_pos) (zeros_runs (Nat.pow_pos WB_pos) hy zs L 0 hVL)⟩
        have txT : Txt (WB ^ K) sT := ⟨htl2, by rw [htE]; exact parts_asc hy L, by rw [htE]; exact parts_nums HNE.out hVL⟩
        have hct := mctext28 K HHI.out sS sT 0 wr (HE.out.below J3.out) (HKw.out.below J3.out) txS txT (by rw [hmS, hmT]; exact vcmp_self _)
        have hp21 : ∀ w', Below wo.heap.size wo w' → Calls Tryz.prog 21 #[.string (str sS)] w' fun e w'' => ∃ v, e = .returned v ∧ Toks 40 w'' w'.heap.size v ((npcs hy 0 L).map ptk) ∧ Below w'.heap.size w' w'' := fun w' hB => by
          have h := mparse_any K HHI.out sS txS.len txS.asc txS.nums w' (HE.out.below hB)
          rw [hmS] at h; exact h
        have hp27 : ∀ w', Calls Tryz.prog 27 #[.string (str sS)] w' fun e w'' => ∃ v, e = .returned v ∧ Toks 40 w'' w'.heap.size v ((npcs hy 0 L).map ptk) ∧ Below w'.heap.size w' w'' := fun w' => by
          have h := sparse27 sS txS.len w'
          rw [hmS] at h; exact h
        have HCT := Lib.hid hct
        have HP21 := Lib.hid hp21
        have HP27 := Lib.hid hp27
        have hml2 : ((npcs hy 0 L).map ptk).length ≤ 1000000 := by rw [List.length_map, npcs_len]; omega
        have HJ : Hid (Toks 40 wr wo.heap.size vo ((npcs hy 0 L).map ptk)) := by
          have h2 := J2.out
          rw [hfn] at h2
          have e : i = ((npcs hy 0 L).map ptk).length := by rw [List.length_map, npcs_len]; exact hie
          rw [e] at h2
          exact Lib.hid h2
        clear hct hp21 hp27 txS txT hmS hmT hVL hnz hsE htE hfz hfn hie
        go_wp2_with fail
        (with_reducible refine (HCT.out).mono ?_)
        rintro e w1 ⟨rfl, hB1⟩
        have HB1 := Lib.hid (J3.out.trans (hB1.mono J3.out.size))
        have HJ1 := Lib.hid (HJ.out.below hB1)
        have H21 := Lib.hid (HP21.out w1 HB1.out)
        clear hB1
        go_wp2_with fail
        (with_reducible refine (H21.out).mono ?_)
        rintro e w2 ⟨v, rfl, hT, hB⟩
        have hT2 := HJ1.out.below hB
        have HJ2 := Lib.hid hT2
        have htok := tokens_any _ _ _ _ _ _ w2 hT hT2 hml2 hml2
        have HTO := Lib.hid htok
        have HB2 := Lib.hid (HB1.out.trans (hB.mono HB1.out.size))
        clear hT hT2 htok hB
        go_wp2_with fail
        (with_reducible refine (HTO.out).mono ?_)
        rintro e w3 ⟨rfl, hB3⟩
        have HB3 := Lib.hid (HB2.out.trans (hB3.mono HB2.out.size))
        have HJ3 := Lib.hid (HJ2.out.below hB3)
        clear hB3
        go_wp2_with fail
        (with_reducible refine (HP27.out _).mono ?_)
        rintro e w4 ⟨v4, rfl, hT, hB⟩
        have hT2 := HJ3.out.below hB
        have htok := tokens_any _ _ _ _ _ _ w4 hT hT2 hml2 hml2
        have HTO := Lib.hid htok
        have HB4 := Lib.hid (HB3.out.trans (hB.mono HB3.out.size))
        clear hT hT2 htok hB
        go_wp2_with fail
        (with_reducible refine (HTO.out).mono ?_)
        rintro e w5 ⟨rfl, hB5⟩
        have HB5 := Lib.hid (HB4.out.trans (hB5.mono HB4.out.size))
        clear hB5
        go_wp2_with fail
        go_ret
        exact ⟨rfl, HB5.out⟩
  · by_cases p1 : L.length ≤ 2147483647
    · by_cases p5 : zs.length ≤ 2147483647
      · by_cases p2 : hy.length ≤ 2147483647
        · by_cases p3 : L.length = 0
          · have hz : ((L.length : Int) == 0) = true := by rw [p3]; rfl
            have HP := Lib.hid p3
            clear g1 p3
            go_enter Tryz.func14, Tryz.ntmps14
            go_wp2_with fail
            go_ret
            exact ⟨rfl, Below.refl _ _⟩
          · have hz : ((L.length : Int) == 0) = false := beq_eq_false_iff_ne.2 (by omega)
            have p4 : 60 < L.length := by omega
            clear g1 p3
            go_enter Tryz.func14, Tryz.ntmps14
            go_wp2_with fail
            go_ret
            exact ⟨rfl, Below.refl _ _⟩
        · have p4 : 2147483647 < hy.length := by omega
          clear g1 p2
          go_enter Tryz.func14, Tryz.ntmps14
          go_wp2_with fail
          go_ret
          exact ⟨rfl, Below.refl _ _⟩
      · have p4 : 2147483647 < zs.length := by omega
        clear g1 p5
        go_enter Tryz.func14, Tryz.ntmps14
        go_wp2_with fail
        go_ret
        exact ⟨rfl, Below.refl _ _⟩
    · have p4 : 2147483647 < L.length := by omega
      clear g1 p1
      go_enter Tryz.func14, Tryz.ntmps14
      go_wp2_with fail
      go_ret
      exact ⟨rfl, Below.refl _ _⟩
end Go.Proofs.Tz
