/- Contract of the reference's intOf. -/
import Derived.Test.YtcehboopgjpfcaaGreatDoorN0
import Derived.Test.YtcehboopgjpfcaaGreatDoorS6
namespace Go.Proofs.Mv
theorem magL_step (q : Bs) {i : Nat} {c : UInt8} (h : q[i]? = some c) : magOf (q.take (i + 1)) = ten (c.toNat - 48) (magOf (q.take i)) := by
  rw [Go.Proofs.Tz.take_snoc h, magOf_snoc]
theorem take_rev {l : List Nat} {k : Nat} {x : Nat} (h : l[k]? = some x) : (List.replicate (l.length - k) 0 ++ (l.take k).reverse).set (l.length - 1 - k) x = List.replicate (l.length - (k + 1)) 0 ++ (l.take (k + 1)).reverse := by
  obtain ⟨hk, _⟩ := List.getElem?_eq_some_iff.1 h
  rw [Go.Proofs.Tz.take_snoc h, List.reverse_append, List.reverse_singleton, show l.length - k = (l.length - (k + 1)) + 1 by omega, List.replicate_succ', List.append_assoc, List.set_append_right _ _ (by rw [List.length_replicate]; omega), List.length_replicate,
    show l.length - 1 - k - (l.length - (k + 1)) = 0 by omega]; rfl
end Go.Proofs.Mv
namespace Go.Proofs.Tz
open Go.RowKit Mv

/-- Bytes that are numbers. -/
def nby (l : List Nat) : List Value := l.map fun (x : Nat) => .int .u8 (x : Int)
theorem nby_length (l : List Nat) : (nby l).length = l.length := List.length_map _
theorem nby_append (a b : List Nat) : nby (a ++ b) = nby a ++ nby b := List.map_append
theorem nby_get {l : List Nat} {k x : Nat} (h : l[k]? = some x) : (nby l)[k]? = some (.int .u8 (x : Int)) := by rw [nby, List.getElem?_map, h]; rfl
theorem nby_set (l : List Nat) (k x : Nat) : (nby l).set k (.int .u8 (x : Int)) = nby (l.set k x) := by rw [nby, nby, List.map_set]
theorem info5 : ∃ i, Tryz.prog.info? 5 = some i ∧ i.zero = some (.int .u8 0) ∧ i.size = 1 ∧ i.bytes = 1 := by
  have h : (Tryz.prog.info? 5).map (fun i => (i.zero, i.size, i.bytes)) = some (some (.int .u8 0), 1, 1) := by kernel_rfl
  obtain ⟨i, hi, hzz⟩ := Option.map_eq_some_iff.1 h
  simp only [Prod.mk.injEq] at hzz
  exact ⟨i, hi, hzz.1, hzz.2.1, hzz.2.2⟩
def ten1 (d : Nat) (l : List Nat) (k : Nat) : List Nat := (tenL d (l.take k)).1 ++ l.drop k
theorem ten1_zero (d : Nat) (l : List Nat) : ten1 d l 0 = l := by simp [ten1, tenL]
theorem ten1_len (d : Nat) (l : List Nat) {k : Nat} (hk : k ≤ l.length) : (ten1 d l k).length = l.length := by
  rw [ten1, List.length_append, tenL_len, List.length_take, List.length_drop]; omega
theorem ten1_get (d : Nat) (l : List Nat) {k x : Nat} (h : l[k]? = some x) : (ten1 d l k)[k]? = some x := by
  have hk := (List.getElem?_eq_some_iff.1 h).1
  rw [ten1, List.getElem?_append_right (by rw [tenL_len, List.length_take]; omega), tenL_len, List.length_take, List.getElem?_drop, show k + (k - min k l.length) = k by omega]; exact h
theorem ten1_set (d : Nat) (l : List Nat) {k x : Nat} (h : l[k]? = some x) : (ten1 d l k).set k (((tenL d (l.take k)).2 + 10 * x) % 256) = ten1 d l (k + 1) := by
  obtain ⟨hk, he⟩ := List.getElem?_eq_some_iff.1 h
  have hs := tenL_step l d h
  rw [ten1, ten1, hs.1, List.drop_eq_getElem_cons hk, List.set_append_right _ _ (by rw [tenL_len, List.length_take]; omega), tenL_len, List.length_take, show k - min k l.length = 0 by omega, List.append_assoc]; rfl
theorem ten1_end (d : Nat) (l : List Nat) : ten1 d l l.length = (tenL d l).1 := by rw [ten1, List.take_length, List.drop_length, List.append_nil]
/-- An Int of the reference. -/
def nint (neg : Bool) (m : Bs) : Value := .agg #[.bool neg, .string (str m)]

set_option maxHeartbeats 8000000 in
set_option maxRecDepth 100000 in
theorem intOf75 (q : Bs) (hq : ∀ c ∈ q, isDig c = true) (hl : q.length ≤ 1000000) (w : World) :
    Calls Tryz.prog 75 #[.string (str q)] w fun e w' => e = .returned (nint false (bytesOf q)) ∧ Below w.heap.size w w' := by
  obtain ⟨i5, hi5, hz5, hs5, hb5⟩ := info5
  have hss := str_size
  have HQ := Lib.hid hq
  clear hq
  obtain ⟨wo, hwo⟩ : ∃ x, x = w.alloc (Obj.cells #[Value.bool false, Value.string ⟨#[]⟩] 50) := ⟨_, rfl⟩
  have hB0 : Below w.heap.size w wo := by rw [hwo]; exact (Below.refl _ _).alloc (Nat.le_refl _) _
  have hsz0 : wo.heap.size = w.heap.size + 1 := by rw [hwo, size_alloc]
  have hA0 : Arr wo w.heap.size 50 [Value.bool false, Value.string ⟨#[]⟩] := by rw [hwo]; exact Arr.new _ _ _
  have HB0 := Lib.hid hB0
  have HA0 := Lib.hid hA0
  clear hB0 hA0
  go_enter Tryz.func75, Tryz.ntmps75
  go_wp2_with fail
  rw [← hwo]
  clear hwo
  go_loopw [3, 4, 5, 6] (fun m i c k wr => ∃ (cv kv : Value) (a : Option Addr) (cap j : Nat) (mg : List Nat), cv = c ∧ kv = k ∧ m = .slice a mg.length cap ∧ i = .int .i64 (j : Int) ∧ j ≤ q.length ∧ mg.length ≤ j ∧ Hid (mg = magOf (q.take j)) ∧
      Hid (wr.ownsRow wo.heap.size 5 1 (.slice a mg.length cap) mg.length (nby mg)) ∧ Hid (Below wo.heap.size wo wr)) (fun _ i _ _ _ => q.length - (intOf i).toNat)
  case atStart => exact ⟨_, _, none, 0, 0, [], rfl, rfl, rfl, rfl, Nat.zero_le _, Nat.zero_le _, Lib.hid rfl, Lib.hid (by exact World.ownsRow_nil _ _ _ _), Lib.hid (Below.refl _ _)⟩
  case round =>
    obtain ⟨cv, kv, a, cap, j, mg, rfl, rfl, rfl, rfl, hj, hml, HM, HR, HB⟩ := hrel
    by_cases hjl : j < q.length
    · obtain ⟨c, hc⟩ : ∃ c, q[j]? = some c := ⟨_, List.getElem?_eq_getElem hjl⟩
      have hd := (isDig_iff c).1 (HQ.out c (List.mem_of_getElem? hc))
      have q2 := str_index hc
      unfold byt at q2
      obtain ⟨d, hdd⟩ : ∃ d, d = c.toNat - 48 := ⟨_, rfl⟩
      have hcd : (c.toNat : Int) = (d : Int) + 48 := by omega
      have hd9 : d < 10 := by omega
      rw [hcd] at q2
      have HC := Lib.hid hc
      have hmag : ∀ x ∈ mg, x < 256 := by
        rw [HM.out]
        exact (mag_props _ (q.take j) rfl (fun c hc => HQ.out c (List.mem_of_mem_take hc))).2.1
      have HMAG := Lib.hid hmag
      have HD := Lib.hid (show magOf (q.take (j + 1)) = ten d mg by rw [magL_step q hc, HM.out, hdd])
      have e1 : ((d : Int) + 48 - 48) % 256 = (d : Int) := by omega
      have e2 : (d : Int) % 256 = (d : Int) := by omega
      clear hc hmag hd hdd hcd
      go_wp2_with fail
      obtain ⟨wq, rfl⟩ : ∃ wq : World, wq = wr := ⟨_, rfl⟩
      go_loopw [5, 6] (fun c x wr => ∃ (k : Nat), x = .int .i64 (k : Int) ∧ k ≤ mg.length ∧ c = .int .i64 ((tenL d (mg.take k)).2 : Nat) ∧ Hid (wr.ownsRow wo.heap.size 5 1 (.slice a mg.length cap) mg.length (nby (ten1 d mg k))) ∧ Hid (Below wo.heap.size wo wr)) (fun _ x _ => mg.length - (intOf x).toNat)
      case atStart => exact ⟨0, rfl, Nat.zero_le _, rfl, by rw [ten1_zero]; exact HR, HB⟩
      case round =>
        obtain ⟨k, rfl, hk, rfl, HR, HB⟩ := hrel
        by_cases hkl : k < mg.length
        · obtain ⟨x, hx⟩ : ∃ x, mg[k]? = some x := ⟨_, List.getElem?_eq_getElem hkl⟩
          have hx256 := HMAG.out x (List.mem_of_getElem? hx)
          obtain ⟨g, cap', hform, _, _⟩ := World.ownsRow.form HR.out (by omega)
          injection hform with ha hn hcap
          subst ha hcap
          have hcd : (tenL d (mg.take k)).2 < 10 := (tenL_lt (mg.take k) d (fun y hy => HMAG.out y (List.mem_of_mem_take hy)) hd9).2
          have hst := tenL_step mg d hx
          have hset := ten1_set d mg hx
          have hcell : wr.cell? ⟨g, k, none⟩ = some (.int .u8 (x : Int)) := by
            rw [HR.out.cellAt k (by omega)]
            exact nby_get (ten1_get d mg hx)
          have hfz := HR.out.frozenAt k
          obtain ⟨cy, hcy⟩ : ∃ cy, cy = (tenL d (mg.take k)).2 := ⟨_, rfl⟩
          rw [← hcy] at hcd hst hset ⊢
          have hsto := HR.out.stored k (.int .u8 (((cy + 10 * x) % 256 : Nat) : Int))
          rw [nby_set, hset] at hsto
          have HS := Lib.hid hsto
          have HST := Lib.hid hst.2
          have hgb : wo.heap.size ≤ g := (HR.out.lt g rfl).1
          have HB2 := Lib.hid (show Below wo.heap.size wo (wr.setCell ⟨g, k, none⟩ (.int .u8 (((cy + 10 * x) % 256 : Nat) : Int))) from HB.out.setCell hgb _)
          clear hx hst hset hcy hsto
          go_wp2_with fail
          go_roundw
          case rel => exact ⟨k + 1, by go_num, by omega, by rw [HST.out]; go_num, HS.out.1, HB2⟩
          case measure => simp [intOf]; omega
        · have hke : k = mg.length := by omega
          subst hke
          rw [List.take_length]
          rw [ten1_end] at HR
          obtain ⟨cy, hcy⟩ : ∃ cy, cy = (tenL d mg).2 := ⟨_, rfl⟩
          rw [← hcy]
          have hcd : cy < 10 := by rw [hcy]; exact (tenL_lt mg d HMAG.out hd9).2
          have hlen := tenL_len mg d
          by_cases hc0 : cy = 0
          · have HT : Hid ((tenL d mg).1 = magOf (q.take (j + 1))) := Lib.hid (by rw [HD.out, ten, if_pos (by rw [← hcy, hc0])])
            subst hc0
            clear hcy
            go_wp2_with fail
            go_roundw
            case rel => exact ⟨_, _, a, cap, j + 1, (tenL d mg).1, rfl, rfl, by rw [hlen], by go_num, by omega, by omega, HT, by rw [hlen]; exact HR, HB⟩
            case measure => simp [intOf]; omega
          · have HT : Hid ((tenL d mg).1 ++ [cy] = magOf (q.take (j + 1))) := Lib.hid (by rw [HD.out, ten, if_neg (by rw [← hcy]; exact hc0), ← hcy])
            clear hcy
            have hszo : wo.heap.size ≤ wr.heap.size := HB.out.size
            go_wp2_with (first | (at_builtin; refine wpList_append_lies _ rfl (.tmp 44) (.tmp 47) 32 rfl wo.heap.size 5 i5 (.int .u8 0) 1 1 Tryz.underlying32 hi5 hz5 hs5 hb5 rfl (by decide) (.slice a mg.length cap) mg.length (nby (tenL d mg).1) rfl (HR.out.alloc _) ⟨wr.heap.size, 0, none⟩ 1 1 [.int .u8 (cy : Int)] rfl rfl (cell_one_new _ _ _) (by intro u hu; simp at hu; subst hu; rfl) (by decide) (by unfold maxLen; omega) (by omega) (by simp; omega) _ rfl ?_; intro g cap w2 hown2 hgrow2 hat2 hlt2))
            have hB2 := Lib.hid ((HB.out.alloc hszo _).grown hgrow2 (by rw [size_alloc]; omega) (fun j hj => HR.out.lt j hj |>.1))
            have hR2 : Hid (w2.ownsRow wo.heap.size 5 1 (.slice (some ⟨g, 0, none⟩) ((tenL d mg).1 ++ [cy]).length cap) ((tenL d mg).1 ++ [cy]).length (nby ((tenL d mg).1 ++ [cy]))) := Lib.hid (by
              rw [nby_append, List.length_append, hlen]
              exact hown2)
            clear hown2 hgrow2 hat2 hlt2
            go_roundw
            case rel => exact ⟨_, _, _, cap, j + 1, (tenL d mg).1 ++ [cy], rfl, rfl, by rw [List.length_append, hlen]; rfl, by go_num, by omega, by rw [List.length_append, hlen]; simp; omega, HT, hR2, hB2⟩
            case measure => simp [intOf]; omega
    · have hje : j = q.length := by omega
      subst hje
      have hmk := run_mkb mg.length (by omega)
      obtain ⟨wp, hwp⟩ : ∃ x, x = wr.alloc (Obj.cells (zb mg.length).toArray 5) := ⟨_, rfl⟩
      have hAp : Arr wp wr.heap.size 5 (zb mg.length) := by rw [hwp]; exact Arr.new _ _ _
      have hszp : wp.heap.size = wr.heap.size + 1 := by rw [hwp, size_alloc]
      have hszr : wo.heap.size ≤ wr.heap.size := HB.out.size
      have hBp : Below wo.heap.size wo wp := by rw [hwp]; exact HB.out.alloc hszr _
      have hRp : wp.ownsRow wo.heap.size 5 1 (.slice a mg.length cap) mg.length (nby mg) := by rw [hwp]; exact HR.out.alloc _
      have hnb : a.map (·.block) ≠ some wr.heap.size := by
        intro e
        cases a with
        | none => simp at e
        | some a =>
          have := (HR.out.lt a.block rfl).2
          simp at e; omega
      have HAP := Lib.hid hAp
      have HBP := Lib.hid hBp
      have HRP := Lib.hid hRp
      have HNB := Lib.hid hnb
      have hmg := HM.out
      rw [List.take_length] at hmg
      have HMG := Lib.hid hmg
      clear hAp hBp hRp hnb hmg HR HB HM
      go_wp2_with fail
      rw [← hwp]
      clear hwp hmk
      obtain ⟨wm, hwm⟩ : ∃ wm : World, wm = wr := ⟨_, rfl⟩
      rw [← hwm] at HAP HNB hszp hszr ⊢
      clear hwm
      go_loopw [8] (fun x wv => ∃ k : Nat, x = .int .i64 (k : Int) ∧ k ≤ mg.length ∧ Hid (Arr wv wm.heap.size 5 (nby (List.replicate (mg.length - k) 0 ++ (mg.take k).reverse))) ∧ Hid (wv.ownsRow wo.heap.size 5 1 (.slice a mg.length cap) mg.length (nby mg)) ∧ Hid (Below wo.heap.size wo wv)) (fun x _ => mg.length - (intOf x).toNat)
      case atStart => exact ⟨0, rfl, Nat.zero_le _, by rw [Nat.sub_zero, List.take_zero, List.reverse_nil, List.append_nil, nby, List.map_replicate]; exact HAP, HRP, HBP⟩
      case round =>
        obtain ⟨k, rfl, hk, HV, HR, HB⟩ := hrel
        by_cases hkl : k < mg.length
        · obtain ⟨x, hx⟩ : ∃ x, mg[k]? = some x := ⟨_, List.getElem?_eq_getElem hkl⟩
          obtain ⟨g, cap', hform, _, _⟩ := World.ownsRow.form HR.out (by omega)
          injection hform with ha hn hcap
          subst ha hcap
          have hcell : wr.cell? ⟨g, k, none⟩ = some (.int .u8 (x : Int)) := by
            rw [HR.out.cellAt k (by omega)]
            exact nby_get hx
          obtain ⟨n3, hn3⟩ : ∃ n3, n3 = mg.length - 1 - k := ⟨_, rfl⟩
          have hj3 : (mg.length : Int) - 1 - (k : Int) = (n3 : Int) := by omega
          have hn3l : n3 < mg.length := by omega
          have hfz := HV.out.free n3
          have hc3 : wr.cell? ⟨wm.heap.size, n3, none⟩ = some (.int .u8 0) := HV.out.cell (by
            have : (List.replicate (mg.length - k) 0 ++ (mg.take k).reverse)[n3]? = some 0 := by
              rw [List.getElem?_append_left (by rw [List.length_replicate]; omega), List.getElem?_replicate, if_pos (by omega)]
            exact nby_get this)
          have hset := HV.out.set (mg.length - 1 - k) (.int .u8 (x : Int))
          rw [nby_set, take_rev hx, ← hn3] at hset
          have hB2 := Lib.hid (show Below wo.heap.size wo (wr.setCell ⟨wm.heap.size, n3, none⟩ (.int .u8 (x : Int))) from HB.out.setCell hszr _)
          have hR2 := Lib.hid (ownsRow_setCell_other HR.out (a := ⟨wm.heap.size, n3, none⟩) (by simpa [Value.ownBlock] using HNB.out) (.int .u8 (x : Int)))
          clear hx hn3
          have HS := Lib.hid hset
          clear hset
          go_wp2_with fail
          go_roundw
          case rel => exact ⟨k + 1, by go_num, by omega, HS, hR2, hB2⟩
          case measure => simp [intOf]; omega
        · have hke : k = mg.length := by omega
          have hbl : (bytesOf q).length = mg.length := by rw [bytesOf, List.length_map, List.length_reverse, HMG.out]
          have hmag : ∀ x ∈ mg, x < 256 := by rw [HMG.out]; exact (mag_props _ q rfl HQ.out).2.1
          have hcs : ∀ i x, (bytesOf q)[i]? = some x → wr.cell? ⟨wm.heap.size, 0 + i, none⟩ = some (byt x) := fun i x hi => by
            rw [bytesOf, ← HMG.out, List.getElem?_map] at hi
            obtain ⟨m, hm, hx⟩ := Option.map_eq_some_iff.1 hi
            refine HV.out.cell ?_
            rw [Nat.zero_add, hke, Nat.sub_self, List.replicate_zero, List.nil_append, List.take_length, nby_get hm, ← hx, byt, UInt8.toNat_ofNat_of_lt' (by simpa using hmag m (List.mem_reverse.1 (List.mem_of_getElem? hm)))]
          have hcv := conv_str (bytesOf q) wm.heap.size 0 mg.length wr hcs
          rw [hbl] at hcv
          subst hke
          have hAr := HA0.out.below HB.out
          have hc0 : wr.cell? ⟨w.heap.size, 0, none⟩ = some (.bool false) := hAr.cell rfl
          have hc1 : wr.cell? ⟨w.heap.size, 1, none⟩ = some (.string ⟨#[]⟩) := hAr.cell rfl
          have hf0 := hAr.free 0
          have hf1 := hAr.free 1
          clear hcs hbl hmag
          go_wp2_with fail
          have hA2 := (hAr.set 0 (.bool false)).set 1 (.string (str (bytesOf q)))
          have d0 : ((wr.setCell ⟨w.heap.size, 0, none⟩ (Value.bool false)).setCell ⟨w.heap.size, 1, none⟩ (Value.string (str (bytesOf q)))).cell? ⟨w.heap.size, 0, none⟩ = some (.bool false) := hA2.cell rfl
          have d1 : ((wr.setCell ⟨w.heap.size, 0, none⟩ (Value.bool false)).setCell ⟨w.heap.size, 1, none⟩ (Value.string (str (bytesOf q)))).cell? ⟨w.heap.size, 1, none⟩ = some (.string (str (bytesOf q))) := hA2.cell rfl
          refine bodyPost_ret (v := nint false (bytesOf q)) (by simp [results, Tryz.results75, go_sem, d0, d1, nint]) rfl ⟨rfl, ?_⟩
          exact ((HB0.out.trans (HB.out.mono HB0.out.size)).setCell (Nat.le_refl _) _).setCell (Nat.le_refl _) _
end Go.Proofs.Tz
