/- Contract of newMavenVersion. -/
import Derived.Test.YtcehboopgjpfcaaGreatDoorDA
import Derived.Deep.DeepCutAuto
import Derived.Deep.CutBlock
namespace Go.Proofs.Tz
open Go.RowKit Mv

theorem dval_nv {q : Bs} {m : Bool} (h : allDig q = true) : allDig (nv q m) = true ∧ dval (nv q m) = dval q := by
  have h1 := (allDig_iff q).1 h
  rw [nv_dig h1.1 h1.2, strip_dec q h1.1 h1.2]
  exact ⟨(allDig_iff _).2 ⟨dec_ne_nil _, dec_dig _⟩, dval_dec _⟩
theorem noNum_f5 {q : Bs} (h : NoNum q) : f5 q = q := by
  rw [f5, if_neg]
  intro hd
  have h1 := (allDig_iff q).1 hd
  obtain ⟨c, hc⟩ := List.exists_mem_of_ne_nil q h1.1
  have := (h c hc).1
  rw [h1.2 c hc] at this; cases this

set_option maxHeartbeats 16000000 in
set_option maxRecDepth 100000 in
theorem newMaven_any (K : Nat) (HI : ItoaSaid K) (l : Bs) (hl : l.length ≤ 100000) (ha : Asc l) (hsm : ∀ t ∈ tokR [] (splitI l), allDig t.v = true → dval t.v < WB ^ K) (w : World) (hE : EnvL w) :
    Calls Tryz.prog 52 #[.string (str l)] w fun e w' => ∃ v, e = .returned (.agg #[v]) ∧ Toks 84 w' w.heap.size v (mvTokens l) ∧ Below w.heap.size w w' := by
  obtain ⟨i84, z84, hi84, hz84, hs84, hb84, hc84⟩ := info84
  obtain ⟨i3, hi3, hz3, hs3, hb3⟩ := info3
  obtain ⟨T, hT⟩ : ∃ T, T = tokR [] (splitI l) := ⟨_, rfl⟩
  have hTl : T.length ≤ l.length + 1 := by rw [hT]; exact tokR_len l
  have hrl := split_len l
  have hspl := split_any l (by omega) ha
  obtain ⟨raws, hraws⟩ : ∃ raws, raws = splitI l := ⟨_, rfl⟩
  rw [← hraws] at hrl hspl
  have hev : evenOk raws := by rw [hraws]; exact evenOk_split l
  have hra : ∀ r ∈ raws, Asc r := by rw [hraws]; exact split_asc ha
  have hrl2 : ∀ r ∈ raws, r.length ≤ l.length := by rw [hraws]; exact split_mem_len l
  have hTr : tokR [] raws = T := by rw [hT, hraws]
  rw [← hT] at hsm
  have HHI := Lib.hid HI
  have HSM := Lib.hid hsm
  have HE := Lib.hid hE
  have HT := Lib.hid hTr
  have HTL := Lib.hid hT
  have HEV := Lib.hid hev
  have HRA := Lib.hid hra
  have HRL := Lib.hid hrl2
  have HSPL := Lib.hid hspl
  clear HI hsm hE hT hTr hev hra hrl2 ha hspl hraws
  have htl := str_toList
  have t1 : ByteArray.toList { data := #[99, 114] } = sCr := str_toList sCr
  have t2 : ByteArray.toList { data := #[103, 97] } = sGa := str_toList sGa
  have t3 : ByteArray.toList { data := #[102, 105, 110, 97, 108] } = sFinal := str_toList sFinal
  have t4 : ByteArray.toList { data := #[114, 101, 108, 101, 97, 115, 101] } = sRelease := str_toList sRelease
  have t5 : ByteArray.toList { data := #[97] } = [97] := str_toList [97]
  have t6 : ByteArray.toList { data := #[98] } = [98] := str_toList [98]
  have t7 : ByteArray.toList { data := #[109] } = [109] := str_toList [109]
  have t8 : ByteArray.toList { data := #[97, 108, 112, 104, 97] } = sAlpha := str_toList sAlpha
  have t10 : ByteArray.toList { data := #[45] } = [45] := str_toList [45]
  have t9 : ByteArray.toList { data := #[98, 101, 116, 97] } = sBeta := str_toList sBeta
  go_enter Tryz.func52, Tryz.ntmps52
  go_wp2_with fail
  obtain ⟨wo, rfl⟩ : ∃ wo : World, wo = w := ⟨_, rfl⟩
  (with_reducible refine (HSPL.out _).mono ?_)
  rintro e w2 ⟨v4, rfl, hS, hB⟩
  rw [size_alloc] at hS hB
  have hB2 : Below wo.heap.size wo w2 := ((Below.refl wo.heap.size wo).alloc (Nat.le_refl _) (Obj.cells #[Value.slice none 0 0] 66)).trans (hB.mono (by omega))
  have hres : Arr w2 wo.heap.size 66 [Value.slice none 0 0] := (hB.block wo.heap.size (by omega)).trans (Arr.new wo 66 [Value.slice none 0 0])
  obtain ⟨H4, hH4⟩ : ∃ n, n = w2.heap.size := ⟨_, rfl⟩
  have h4lt : wo.heap.size < H4 := by rw [hH4]; exact hres.lt
  obtain ⟨a4, c4, hv4⟩ : ∃ a c, v4 = .slice a raws.length c := by
    rcases hS.2 with ⟨h, h0⟩ | ⟨g, cap, cur, h, _⟩
    · exact ⟨none, 0, by rw [h, h0]⟩
    · exact ⟨_, _, h⟩
  have HS4 := Lib.hid hS
  have HB2 := Lib.hid hB2
  have HRES := Lib.hid hres
  have HH4 := Lib.hid hH4
  clear hS hB hB2 hres hH4
  subst hv4
  go_wp2_with fail
  go_loopw [3, 5, 6] (fun o z x wr => ∃ (zv v : Value) (i : Nat) (done : List Tok), zv = z ∧ v = o ∧ x = .int .i64 (i : Int) ∧ i ≤ raws.length + 1 ∧ Hid (done ++ tokR (preAt raws i) (raws.drop i) = T) ∧ Hid (evenOk (raws.drop i)) ∧ Hid (Toks 84 wr H4 v done) ∧ Hid (Below wo.heap.size wo wr) ∧ Hid (Same wo.heap.size H4 w2 wr) ∧ H4 ≤ wr.heap.size) (fun _ _ x _ => raws.length + 2 - (intOf x).toNat)
  case atStart => exact ⟨_, _, 0, [], rfl, rfl, rfl, Nat.zero_le _, Lib.hid HT.out, Lib.hid HEV.out, Lib.hid (World.ownsRow_nil _ _ _ _), HB2, Lib.hid (Same.refl _ _ _), by rw [HH4.out]; exact Nat.le_refl _⟩
  case round =>
    obtain ⟨zv5, v, i, done, rfl, rfl, rfl, hi, H1, H2, H3, H5, H6, hsz⟩ := hrel
    by_cases hil : i < raws.length
    · obtain ⟨r, hr⟩ : ∃ r, raws[i]? = some r := ⟨_, List.getElem?_eq_getElem hil⟩
      obtain ⟨g4, cap4, hv4, q1, q2, q3⟩ := HS4.out.read hr
      injection hv4 with e1 e2 e3
      subst e1 e3
      have k3 := H6.out.cell (a := ⟨g4, i, none⟩) (by show wo.heap.size ≤ g4; omega) (by show g4 < H4; rw [HH4.out]; exact q2) q3
      have hk2 : i ≠ 0 → ∃ d, raws[i - 1]? = some d ∧ wr.cell? ⟨g4, i - 1, none⟩ = some (.string (str d)) := by
        intro h0
        obtain ⟨d, hd⟩ : ∃ d, raws[i - 1]? = some d := ⟨_, List.getElem?_eq_getElem (by omega)⟩
        obtain ⟨g4', cap4', hv4', _, q2', q3'⟩ := HS4.out.read hd
        injection hv4' with e1 e2 e3
        injection e1 with e1
        injection e1 with e1
        subst e1
        exact ⟨d, hd, H6.out.cell (a := ⟨g4, i - 1, none⟩) (by show wo.heap.size ≤ g4; omega) (by show g4 < H4; rw [HH4.out]; exact q2') q3'⟩
      have hrl1 : r.length ≤ l.length := HRL.out r (List.mem_of_getElem? hr)
      have HKK := Lib.hid hk2
      have HR := Lib.hid hr
      have HQ := Lib.hid (And.intro q1 q2)
      clear hk2 hr q1 q2 q3
      go_upto_if 24 with fail
      go_cut [5] from 17 to 103 (fun s wx => s = .string (str (preAt raws i)) ∧ wx = wr)
      case first =>
        by_cases h0 : i = 0
        · subst h0
          go_wp2_with fail
          go_meet
          exact ⟨rfl, rfl⟩
        · obtain ⟨d, hd1, hd2⟩ := HKK.out h0
          have hi0 : ((i : Int) == 0) = false := by simp [h0]
          have hpre : preAt raws i = d := by rw [preAt, if_neg h0, List.getD_eq_getElem?_getD, hd1]; rfl
          have HPRE := Lib.hid hpre
          have hsub : IntKind.i64.wrap ((i : Int) - 1) = ((i - 1 : Nat) : Int) := by rw [IntWalk.i64_in _ (by omega)]; omega
          have hb1 : ((i - 1 : Nat) : Int) < (raws.length : Int) := by omega
          clear hpre hd1
          go_wp2_with fail
          go_meet
          exact ⟨by rw [HPRE.out], rfl⟩
      case rest =>
        obtain ⟨rfl, rfl⟩ := hcut
        have hAr : Asc r := HRA.out r (List.mem_of_getElem? HR.out)
        go_wp2_with fail
        (with_reducible refine (transitions_any r (by omega) hAr wc).mono ?_)
        rintro e wA ⟨v7, rfl, hI, hBA⟩
        have hszA := hBA.size
        have k3A : wA.cell? ⟨g4, i, none⟩ = some (.string (str r)) := cell_keep hBA k3
        obtain ⟨lo7, hlo7⟩ : ∃ n, n = wc.heap.size := ⟨_, rfl⟩
        rw [← hlo7] at hI hszA
        have HI7 := Lib.hid hI
        have HBA := Lib.hid hBA
        have HLO7 := Lib.hid hlo7
        have htl : (transA 0 r).length ≤ r.length := by have := cuts_len r; simp only [cuts, List.length_append, List.length_singleton] at this; omega
        have hsl : (str r).size = r.length := str_size r
        clear hI hBA hlo7 hAr
        go_wp2_with (first | (at_builtin; refine wpList_append_lies _ rfl (.tmp 35) (.tmp 41) 95 rfl lo7 3 i3 (.int .i64 0) 1 8 Tryz.underlying95 hi3 hz3 hs3 hb3 rfl (by decide) v7 (transA 0 r).length ((transA 0 r).map fun (n : Nat) => .int .i64 (n : Int)) rfl (HI7.out.alloc _) ⟨wA.heap.size, 0, none⟩ 1 1 [.int .i64 (r.length : Int)] rfl rfl (cell_one_new _ _ _) (by intro u hu; simp at hu; subst hu; rfl) (by decide) (by unfold maxLen; omega) (by omega) (by simp; omega) _ rfl ?_; intro g7 c7 wB hown7 hgrow7 hat7 hlt7))
        have hncu : (cuts r).length = (transA 0 r).length + 1 := by simp [cuts]
        have hCU : Ints wB lo7 (.slice (some ⟨g7, 0, none⟩) ((transA 0 r).length + 1) c7) (cuts r) := by
          unfold Ints
          rw [hncu]
          unfold cuts
          rw [List.map_append]
          exact hown7
        have hcA : wc.heap.size = lo7 := HLO7.out.symm
        have hloH : H4 ≤ lo7 := by rw [HLO7.out]; exact hsz
        have hH0 := H5.out.size
        have hBAlloc : Below wA.heap.size wA (wA.alloc (Obj.cells #[Value.int IntKind.i64 (r.length : Int)] 3)) := (Below.refl wA.heap.size wA).alloc (Nat.le_refl _) _
        have h7b : ∀ k, v7.ownBlock = some k → lo7 ≤ k ∧ k < wA.heap.size := HI7.out.lt
        have hBwB : Below wo.heap.size wo wB := (((H5.out.trans (HBA.out.mono H5.out.size)).trans (hBAlloc.mono (by have := H5.out.size; omega)))).grown hgrow7 (by rw [size_alloc]; have := H5.out.size; omega) (fun k hk => by have := h7b k hk; have := H5.out.size; omega)
        have hSwB : Same wo.heap.size H4 w2 wB := ((H6.out.below hsz HBA.out).below (by omega) hBAlloc).grown (by rw [size_alloc]; omega) hgrow7 (fun k hk => by have := h7b k hk; omega)
        have hTwB : Toks 84 wB H4 v done := by
          have h1 : Toks 84 (wA.alloc (Obj.cells #[Value.int IntKind.i64 (r.length : Int)] 3)) H4 v done := (H3.out.below HBA.out).below hBAlloc
          refine h1.kept hgrow7 ?_
          cases hv : v.ownBlock with
          | none => exact .inl rfl
          | some g =>
            right
            intro e
            have := (h7b g e.symm).1
            have := (H3.out.lt g hv).2
            omega
        have hg7 : lo7 ≤ g7 := by
          rcases hat7 with h | h
          · exact (h7b g7 h).1
          · rw [size_alloc] at h; omega
        obtain ⟨hi7, hhi7⟩ : ∃ n, n = wB.heap.size := ⟨_, rfl⟩
        rw [← hhi7] at hlt7
        have hVlo : ∀ k, v.ownBlock = some k → k < lo7 ∨ hi7 ≤ k := fun k hk => .inl (by rw [HLO7.out]; exact (H3.out.lt k hk).2)
        have hmr : ∀ c ∈ r, isMark c = false := by
          have := H2.out
          rw [List.drop_eq_getElem_cons hil] at this
          have e : raws[i] = r := by have := HR.out; rw [List.getElem?_eq_getElem hil] at this; injection this
          rw [e] at this
          exact ((evenOk_cons _ _).1 this).1
        have HCU := Lib.hid hCU
        have HMR := Lib.hid hmr
        have HBB := Lib.hid hBwB
        have HSB := Lib.hid hSwB
        have HTB := Lib.hid hTwB
        have HHI7 := Lib.hid hhi7
        have HVLO := Lib.hid hVlo
        have HNCU := Lib.hid hncu
        clear hcA hH0 hown7 hgrow7 hat7 hncu hCU hBAlloc h7b hBwB hSwB hTwB hmr hVlo k3A
        go_loopw [3, 5, 8, 45] (fun o z5 z8 x wr => ∃ (vo : Value) (px : Bs) (k prev : Nat) (dn : List Tok) (dc ts : List Nat), vo = o ∧ z5 = .string (str px) ∧ z8 = .int .i64 (prev : Int) ∧ x = .int .i64 (k : Int) ∧ Hid (k = dc.length) ∧ Hid (cuts r = dc ++ ts) ∧ Hid (prev = dc.getLastD 0) ∧ Hid (k = 0 → px = preAt raws i) ∧
          Hid (dn ++ ptok r (if k = 0 then preAt raws i else [45]) prev ts = done ++ rtok r (preAt raws i)) ∧ Hid (Toks 84 wr H4 vo dn) ∧ Hid (Below wo.heap.size wo wr) ∧ Hid (Same wo.heap.size H4 w2 wr) ∧ Hid (Same lo7 hi7 wB wr) ∧ hi7 ≤ wr.heap.size ∧ Hid (∀ k, vo.ownBlock = some k → k < lo7 ∨ hi7 ≤ k) ∧ k ≤ (transA 0 r).length + 1) (fun _ _ _ x _ => (transA 0 r).length + 1 - (intOf x).toNat)
        case atStart => exact ⟨v, preAt raws i, 0, 0, done, [], cuts r, rfl, rfl, rfl, rfl, Lib.hid rfl, Lib.hid rfl, Lib.hid rfl, Lib.hid (fun _ => rfl), Lib.hid (by rw [rtok_cuts]; rfl), HTB, HBB, HSB, Lib.hid (Same.refl _ _ _), by rw [HHI7.out]; exact Nat.le_refl _, HVLO, Nat.zero_le _⟩
        case round =>
          obtain ⟨vo, px, k, prev, dn, dc, ts, rfl, rfl, rfl, rfl, J1, J2, J3, J4, J5, J6, J7, J8, J9, hszr, J10, hk⟩ := hrel
          by_cases hkl : k < (transA 0 r).length + 1
          · obtain ⟨t, ht⟩ : ∃ t, (cuts r)[k]? = some t := ⟨_, List.getElem?_eq_getElem (by rw [HNCU.out]; exact hkl)⟩
            have hts : ∃ ts', ts = t :: ts' := by
              have e1 : (cuts r)[k]? = ts[0]? := by rw [J2.out, J1.out, List.getElem?_append_right (Nat.le_refl _), Nat.sub_self]
              rw [e1] at ht
              cases ts with
              | nil => simp at ht
              | cons a b => simp at ht; exact ⟨b, by rw [ht]⟩
            obtain ⟨ts', rfl⟩ := hts
            obtain ⟨hpc, hpt, htr⟩ := piece_ok HMR.out J2.out J3.out
            obtain ⟨g7', c7', hv7, q1, q2, q3⟩ := HCU.out.read ht
            injection hv7 with e1 e2 e3
            injection e1 with e1
            injection e1 with e1
            subst e1
            have k7 := J9.out.cell (a := ⟨g7, k, none⟩) hg7 hlt7 q3
            have k4 := J8.out.cell (a := ⟨g4, i, none⟩) (by show wo.heap.size ≤ g4; have := HQ.out; omega) (by show g4 < H4; rw [HH4.out]; exact HQ.out.2) (by have := HS4.out.read HR.out; obtain ⟨g, c, e, _, _, h⟩ := this; injection e with e1; injection e1 with e1; injection e1 with e1; subst e1; exact h)
            have HPC := Lib.hid hpc
            clear q1 q2 q3 e2 e3 ht hpc
            obtain ⟨pk, hpk⟩ : ∃ pk : Bs, pk = if k = 0 then preAt raws i else [45] := ⟨_, rfl⟩
            have hpk0 : k = 0 → preAt raws i = pk := fun h => by rw [hpk, if_pos h]
            have hpk1 : k ≠ 0 → [45] = pk := fun h => by rw [hpk, if_neg h]
            have HPK := Lib.hid hpk
            have HP0 := Lib.hid hpk0
            have HP1 := Lib.hid hpk1
            clear hpk hpk0 hpk1
            go_upto_if 51 with fail
            go_cut [5] from 46 to 103 (fun s wx => s = .string (str pk) ∧ wx = wr)
            case first =>
              by_cases h0 : k = 0
              · have hp := J4.out h0
                have hp2 := Lib.hid (HP0.out h0)
                subst h0
                subst hp
                go_wp2_with fail
                go_meet
                exact ⟨by rw [hp2.out], rfl⟩
              · have hk0 : (0 : Int) < (k : Int) := by omega
                have HK0 := Lib.hid h0
                clear h0
                go_wp2_with fail
                go_meet
                exact ⟨by rw [← HP1.out HK0.out]; rfl, rfl⟩
            case rest =>
              obtain ⟨rfl, rfl⟩ := hcut
              have q5 := sl_m (l := r) (i := prev) (j := t) hpt htr
              rw [List.drop_take] at q5
              obtain ⟨wX, rfl⟩ : ∃ wX : World, wX = wc := ⟨_, rfl⟩
              have hasc : Asc ((r.drop prev).take (t - prev)) := ((HRA.out r (List.mem_of_getElem? HR.out)).drop prev).take _
              have hpl : ((r.drop prev).take (t - prev)).length ≤ r.length := by rw [List.length_take, List.length_drop]; omega
              have hlow := Tryz.strings_ToLower_ascii (str ((r.drop prev).take (t - prev))) wX (by rw [str_size]; omega) (by intro j b hj; rw [str_list] at hj; exact hasc b (List.mem_of_getElem? hj))
              rw [str_list, toLowerA_eq] at hlow
              obtain ⟨q, hq⟩ : ∃ q, q = lower ((r.drop prev).take (t - prev)) := ⟨_, rfl⟩
              have hql : q.length ≤ r.length := by rw [hq]; simpa [lower] using hpl
              rw [← hq] at hlow
              change Calls Tryz.prog 69 #[.string (str ((r.drop prev).take (t - prev)))] wX fun e w' => e = .returned (.string (str q)) ∧ Below wX.heap.size wX w' at hlow
              have HQE := Lib.hid hq
              have HPC2 : Hid (Piece q) := Lib.hid (by rw [hq]; exact HPC.out)
              have HLOW := Lib.hid hlow
              clear hq hlow hasc hpl
              go_wp2_with fail
              (with_reducible refine (HLOW.out).mono ?_)
              rintro e wD ⟨rfl, hBD⟩
              have k4D : wD.cell? ⟨g4, i, none⟩ = some (.string (str r)) := cell_keep hBD k4
              have HBD := Lib.hid hBD
              clear hBD
              go_upto_if 61 with fail
              go_cut [11] from 46 to 103 (fun s wx => s = .string (str (f1 q)) ∧ wx = wD)
              case first =>
                by_cases hq : q = []
                · subst hq
                  go_wp2_with fail
                  go_meet
                  exact ⟨rfl, rfl⟩
                · have h2 : q.isEmpty = false := by simp [hq]
                  have HQ1 := Lib.hid hq
                  clear hq
                  simp only [h2]
                  go_wp2_with fail
                  go_meet
                  exact ⟨by rw [f1, if_neg HQ1.out], rfl⟩
              case rest =>
                obtain ⟨rfl, rfl⟩ := hcut
                obtain ⟨qa, hqa⟩ : ∃ x, x = f1 q := ⟨_, rfl⟩
                rw [← hqa]
                have HQA := Lib.hid hqa
                clear hqa
                go_upto_if 63 with fail
                go_cut [11] from 46 to 103 (fun s wx => s = .string (str (f2 qa)) ∧ wx = wc)
                case first =>
                  by_cases hq : qa = sCr
                  · have h2 : (qa == sCr) = true := by simp [hq]
                    have HQ1 := Lib.hid hq
                    clear hq
                    simp only [h2]
                    go_wp2_with fail
                    go_meet
                    exact ⟨by rw [f2, if_pos HQ1.out]; rfl, rfl⟩
                  · have h2 : (qa == sCr) = false := by simp [hq]
                    have HQ1 := Lib.hid hq
                    clear hq
                    simp only [h2]
                    go_wp2_with fail
                    go_meet
                    exact ⟨by rw [f2, if_neg HQ1.out], rfl⟩
                case rest =>
                  obtain ⟨rfl, rfl⟩ := hcut
                  obtain ⟨qb, hqb⟩ : ∃ x, x = f2 qa := ⟨_, rfl⟩
                  rw [← hqb]
                  have HQB := Lib.hid hqb
                  clear hqb
                  go_upto_region 23 with fail
                  obtain ⟨b3, hb3'⟩ : ∃ b3 : Bool, b3 = decide (qb = sGa ∨ qb = sFinal ∨ qb = sRelease) := ⟨_, rfl⟩
                  have HB3 := Lib.hid hb3'
                  clear hb3'
                  go_cut [73] from 46 to 103 (fun s wx => s = .bool b3 ∧ wx = wc)
                  case first =>
                    by_cases n1 : qb = sGa
                    · have HQ1 := Lib.hid n1
                      subst n1
                      go_wp2_with fail
                      go_meet
                      exact ⟨by rw [HB3.out]; simp, rfl⟩
                    · by_cases n2 : qb = sFinal
                      · have n3 : ¬ sFinal = sGa := by decide
                        subst n2
                        clear n1
                        go_wp2_with fail
                        go_meet
                        exact ⟨by rw [HB3.out]; simp, rfl⟩
                      · by_cases n3 : qb = sRelease
                        · have n4 : ¬ sRelease = sGa := by decide
                          have n5 : ¬ sRelease = sFinal := by decide
                          subst n3
                          clear n1 n2
                          go_wp2_with fail
                          go_meet
                          exact ⟨by rw [HB3.out]; simp, rfl⟩
                        · go_wp2_with fail
                          go_meet
                          exact ⟨by rw [HB3.out]; simp [n1, n2, n3], rfl⟩
                  case rest =>
                    obtain ⟨rfl, rfl⟩ := hcut
                    go_upto_if 73 with fail
                    go_cut [11] from 46 to 103 (fun s wx => s = .string (str (f3 qb)) ∧ wx = wc)
                    case first =>
                      cases b3 with
                      | true =>
                        go_wp2_with fail
                        go_meet
                        exact ⟨by rw [f3, if_pos (of_decide_eq_true HB3.out.symm)]; rfl, rfl⟩
                      | false =>
                        go_wp2_with fail
                        go_meet
                        exact ⟨by rw [f3, if_neg (of_decide_eq_false HB3.out.symm)], rfl⟩
                    case rest =>
                      obtain ⟨rfl, rfl⟩ := hcut
                      obtain ⟨qc, hqc⟩ : ∃ x, x = f3 qb := ⟨_, rfl⟩
                      rw [← hqc]
                      have HQC := Lib.hid hqc
                      clear hqc
                      obtain ⟨b4, hb4'⟩ : ∃ b4 : Bool, b4 = (t != r.length) := ⟨_, rfl⟩
                      have HB4 := Lib.hid hb4'
                      clear hb4'
                      go_upto_region 25 with fail
                      go_cut [80] from 46 to 103 (fun s wx => s = .bool b4 ∧ wx = wc)
                      case first =>
                        by_cases hm : t = r.length
                        · have hm1 : (t : Int) = (r.length : Int) := by omega
                          have HM := Lib.hid hm
                          clear hm
                          go_wp2_with fail
                          go_meet
                          exact ⟨by rw [HB4.out]; simp [HM.out], rfl⟩
                        · have hm1 : ((t : Int) == (r.length : Int)) = false := by simp; omega
                          have hm2 : ¬ (t : Int) = (r.length : Int) := by omega
                          have HM := Lib.hid hm
                          clear hm
                          go_wp2_with fail
                          go_meet
                          exact ⟨by rw [HB4.out, show (t != r.length) = true by simp [HM.out]]; simp [bne, hm1], rfl⟩
                      case rest =>
                        obtain ⟨rfl, rfl⟩ := hcut
                        go_upto_if 80 with fail
                        go_cut [11] from 46 to 103 (fun s wx => s = .string (str (f4 b4 qc)) ∧ wx = wc)
                        case first =>
                          cases b4 with
                          | false =>
                            go_wp2_with fail
                            go_meet
                            exact ⟨by rw [f4, if_pos rfl], rfl⟩
                          | true =>
                            by_cases n1 : qc = [97]
                            · have m1 : (sAlpha == [98]) = false := by decide
                              have m2 : (sAlpha == [109]) = false := by decide
                              have m3 : (qc == [97]) = true := by simp [n1]
                              have N1 := Lib.hid n1
                              clear n1
                              go_wp2_with fail
                              go_meet
                              exact ⟨by rw [N1.out]; rfl, rfl⟩
                            · by_cases n2 : qc = [98]
                              · have m1 : (sBeta == [109]) = false := by decide
                                have m2 : (qc == [97]) = false := by simp [n1]
                                have m3 : (qc == [98]) = true := by simp [n2]
                                have N2 := Lib.hid n2
                                clear n1 n2
                                go_wp2_with fail
                                go_meet
                                exact ⟨by rw [N2.out]; rfl, rfl⟩
                              · by_cases n3 : qc = [109]
                                · have m1 : (qc == [97]) = false := by simp [n1]
                                  have m2 : (qc == [98]) = false := by simp [n2]
                                  have m3 : (qc == [109]) = true := by simp [n3]
                                  have N3 := Lib.hid n3
                                  clear n1 n2 n3
                                  go_wp2_with fail
                                  go_meet
                                  exact ⟨by rw [N3.out]; rfl, rfl⟩
                                · have m1 : (qc == [97]) = false := by simp [n1]
                                  have m2 : (qc == [98]) = false := by simp [n2]
                                  have m3 : (qc == [109]) = false := by simp [n3]
                                  have N := Lib.hid (And.intro n1 (And.intro n2 n3))
                                  clear n1 n2 n3
                                  go_wp2_with fail
                                  go_meet
                                  exact ⟨by rw [f4, if_neg (by simp), if_neg N.out.1, if_neg N.out.2.1, if_neg N.out.2.2], rfl⟩
                        case rest =>
                          obtain ⟨rfl, rfl⟩ := hcut
                          obtain ⟨qd, hqd⟩ : ∃ x, x = f4 b4 qc := ⟨_, rfl⟩
                          rw [← hqd]
                          have hqf : qd = f4 (t != r.length) (f3 (f2 (f1 q))) := by rw [hqd, HQC.out, HQB.out, HQA.out, HB4.out]
                          have hok := f_ok HPC2.out (t != r.length)
                          rw [← hqf] at hok
                          have hqdl : qd.length ≤ r.length + 9 := by have := f_len q (t != r.length); rw [← hqf] at this; omega
                          have hnv : f5 qd = nv q (t != r.length) := by rw [hqf]; exact nv_f q _
                          have hEc : EnvL wc := (HE.out.below J7.out).below HBD.out
                          have HQF := Lib.hid hqf
                          have HNV := Lib.hid hnv
                          have HEC := Lib.hid hEc
                          clear hqd hqf hnv hEc
                          have hmem : (⟨pk, nv q (t != r.length), false⟩ : Tok) ∈ T := by
                            rw [← H1.out, tokR_step HR.out, ← List.append_assoc, ← J5.out, ptok, ← HPK.out, ← HQE.out]
                            simp
                          have hdnl : dn.length ≤ l.length + 1 := by
                            have h1 := congrArg List.length H1.out
                            rw [tokR_step HR.out, ← List.append_assoc, ← J5.out, List.length_append, List.length_append] at h1
                            omega
                          have HMEM := Lib.hid hmem
                          clear hmem
                          rcases hok with hok | hok
                          · have HOK := Lib.hid hok
                            clear hok
                            go_wp2_with fail
                            (with_reducible refine (conv_digits (str qd) wc HEC.out.env (by rw [str_size]; omega) (by rw [str_list]; exact HOK.out)).mono ?_)
                            rintro e wE ⟨bI, ws, baseI, rfl, hInt, hbb, hws, hnr, hval, hBE⟩
                            rw [str_list] at hval
                            have hlenK : ws.length ≤ K := len_le hnr (by
                              rw [hval, HQF.out]
                              refine f_small (Nat.pow_pos WB_pos) (fun hq => ?_) (by rw [← HQF.out]; exact HOK.out)
                              have := HMEM.out
                              have hd := dval_nv (m := (t != r.length)) hq
                              rw [← hd.2]
                              exact HSM.out _ this hd.1)
                            have hBE' := hBE
                            have hstr := string_any HHI.out bI ws baseI wE hInt hlenK hws hnr (HEC.out.below hBE)
                            rw [hval] at hstr
                            have HSTR := Lib.hid hstr
                            have HBE := Lib.hid hBE
                            clear hInt hbb hws hnr hval hlenK hstr hBE hBE'
                            go_wp2_with fail
                            (with_reducible refine (HSTR.out).mono ?_)
                            rintro e wF ⟨rfl, hBF0⟩
                            have hBF : Below wc.heap.size wc wF := HBE.out.trans (hBF0.mono HBE.out.size)
                            have hf5 : dec (dval qd) = f5 qd := by rw [f5, if_pos HOK.out]
                            rw [hf5]
                            clear hf5 hBF0
                            have hBXF : Below wX.heap.size wX wF := HBD.out.trans (hBF.mono HBD.out.size)
                            have HBF := Lib.hid hBXF
                            have hszF : wX.heap.size ≤ wF.heap.size := hBXF.size
                            have hTF : Toks 84 wF H4 vo dn := J6.out.below hBXF
                            have HTF := Lib.hid hTF
                            clear hBF hBXF hTF
                            have hszo : wo.heap.size ≤ wX.heap.size := J7.out.size
                            go_wp2_with (first | (at_builtin; refine wpList_append_lies _ rfl (.tmp 96) (.tmp 100) 64 rfl H4 84 i84 z84 3 40 Tryz.underlying64 hi84 hz84 hs84 hb84 hc84 (by decide) vo dn.length (tcs dn) rfl (HTF.out.alloc _) ⟨wF.heap.size, 0, none⟩ 1 1 [sv pk, sv (f5 qd), .bool false] rfl rfl (World.news_of_block (cs := #[sv pk, sv (f5 qd), .bool false]) (t := 84) (fr := (0, 0)) (heap_alloc_new _ _)) (by intro u hu; simp at hu; rcases hu with rfl | rfl | rfl <;> rfl) (by decide) (by unfold maxLen; omega) (by omega) (by simp; omega) _ rfl ?_; intro gg cc wG hownG hgrowG hatG hltG))
                            have hBW : Below wF.heap.size wF (wF.alloc (Obj.cells #[sv pk, sv (f5 qd), .bool false] 84)) := (Below.refl wF.heap.size wF).alloc (Nat.le_refl _) _
                            have hBcW : Below wX.heap.size wX (wF.alloc (Obj.cells #[sv pk, sv (f5 qd), .bool false] 84)) := HBF.out.trans (hBW.mono hszF)
                            have hVB : ∀ j, vo.ownBlock = some j → wo.heap.size ≤ j := fun j hj => by have := (J6.out.lt j hj).1; omega
                            have hB7 : Below wo.heap.size wo wG := (J7.out.trans (hBcW.mono hszo)).grown hgrowG (by rw [size_alloc]; omega) hVB
                            have hS8 : Same wo.heap.size H4 w2 wG := (J8.out.below (by omega) hBcW).grown (by rw [size_alloc]; omega) hgrowG (fun j hj => .inr (J6.out.lt j hj).1)
                            have hS9 : Same lo7 hi7 wB wG := (J9.out.below hszr hBcW).grown (by rw [size_alloc]; omega) hgrowG J10.out
                            have hTG : Toks 84 wG H4 (.slice (some ⟨gg, 0, none⟩) (dn.length + 1) cc) (dn ++ [⟨pk, f5 qd, false⟩]) := by
                              unfold Toks
                              rw [tcs_append, List.length_append]
                              exact hownG
                            have r1 : k + 1 = (dc ++ [t]).length := by rw [List.length_append, ← J1.out]; rfl
                            have r2 : cuts r = (dc ++ [t]) ++ ts' := by rw [J2.out, List.append_assoc]; rfl
                            have r3 : t = (dc ++ [t]).getLastD 0 := by rw [List.getLastD_concat]
                            have r5 : (dn ++ [⟨pk, f5 qd, false⟩]) ++ ptok r (if k + 1 = 0 then preAt raws i else [45]) t ts' = done ++ rtok r (preAt raws i) := by
                              rw [if_neg (Nat.succ_ne_zero k), HNV.out, ← J5.out, ptok, ← HPK.out, ← HQE.out, List.append_assoc]; rfl
                            have r6 : hi7 ≤ wG.heap.size := by have := hgrowG.size; rw [size_alloc] at this; omega
                            have r7 : ∀ j, (Value.slice (some ⟨gg, 0, none⟩) (dn.length + 1) cc).ownBlock = some j → j < lo7 ∨ hi7 ≤ j := by
                              intro j hj
                              injection hj with hj
                              have hj : gg = j := hj
                              rcases hatG with h | h
                              · exact J10.out j (by rw [h, hj])
                              · rw [size_alloc] at h; omega
                            have r8 : Value.int IntKind.i64 ((k : Int) + 1) = .int .i64 ((k + 1 : Nat) : Int) := by rw [Int.natCast_add]; rfl
                            have r9 : (transA 0 r).length + 1 - (intOf (Value.int IntKind.i64 ((k : Int) + 1))).toNat < (transA 0 r).length + 1 - (intOf (Value.int IntKind.i64 (k : Int))).toNat := by
                              simp only [intOf]; omega
                            refine ⟨⟨_, pk, k + 1, t, dn ++ [⟨pk, f5 qd, false⟩], dc ++ [t], ts', rfl, rfl, rfl, r8, Lib.hid r1, Lib.hid r2, Lib.hid r3, Lib.hid (fun h => absurd h (Nat.succ_ne_zero k)), Lib.hid r5, Lib.hid hTG, Lib.hid hB7, Lib.hid hS8, Lib.hid hS9, r6, Lib.hid r7, hkl⟩, ?_⟩
                            exact r9
                          · have HOK := Lib.hid hok
                            clear hok
                            go_wp2_with fail
                            have hcb : Calls Tryz.prog 70 #[.string (str qd)] wc fun e w' => (∃ a : Addr, e = .returned (.tuple #[.pointer none, .iface 296 (.pointer (some a))])) ∧ Below wc.heap.size wc w' := conv_bad (str qd) wc HEC.out.env (by rw [str_size]; omega) (by rw [str_list]; exact HOK.out)
                            have HCB := Lib.hid hcb
                            clear hcb
                            (with_reducible refine (HCB.out).mono ?_)
                            rintro e wF ⟨⟨aE, rfl⟩, hBF⟩
                            have hf5 : f5 qd = qd := noNum_f5 HOK.out
                            have HF5 := Lib.hid hf5
                            clear hf5
                            have hBXF : Below wX.heap.size wX wF := HBD.out.trans (hBF.mono HBD.out.size)
                            have HBF := Lib.hid hBXF
                            have hszF : wX.heap.size ≤ wF.heap.size := hBXF.size
                            have hTF : Toks 84 wF H4 vo dn := J6.out.below hBXF
                            have HTF := Lib.hid hTF
                            clear hBF hBXF hTF
                            have hszo : wo.heap.size ≤ wX.heap.size := J7.out.size
                            go_wp2_with (first | (at_builtin; refine wpList_append_lies _ rfl (.tmp 96) (.tmp 100) 64 rfl H4 84 i84 z84 3 40 Tryz.underlying64 hi84 hz84 hs84 hb84 hc84 (by decide) vo dn.length (tcs dn) rfl (HTF.out.alloc _) ⟨wF.heap.size, 0, none⟩ 1 1 [sv pk, sv (qd), .bool false] rfl rfl (World.news_of_block (cs := #[sv pk, sv (qd), .bool false]) (t := 84) (fr := (0, 0)) (heap_alloc_new _ _)) (by intro u hu; simp at hu; rcases hu with rfl | rfl | rfl <;> rfl) (by decide) (by unfold maxLen; omega) (by omega) (by simp; omega) _ rfl ?_; intro gg cc wG hownG hgrowG hatG hltG))
                            have hBW : Below wF.heap.size wF (wF.alloc (Obj.cells #[sv pk, sv (qd), .bool false] 84)) := (Below.refl wF.heap.size wF).alloc (Nat.le_refl _) _
                            have hBcW : Below wX.heap.size wX (wF.alloc (Obj.cells #[sv pk, sv (qd), .bool false] 84)) := HBF.out.trans (hBW.mono hszF)
                            have hVB : ∀ j, vo.ownBlock = some j → wo.heap.size ≤ j := fun j hj => by have := (J6.out.lt j hj).1; omega
                            have hB7 : Below wo.heap.size wo wG := (J7.out.trans (hBcW.mono hszo)).grown hgrowG (by rw [size_alloc]; omega) hVB
                            have hS8 : Same wo.heap.size H4 w2 wG := (J8.out.below (by omega) hBcW).grown (by rw [size_alloc]; omega) hgrowG (fun j hj => .inr (J6.out.lt j hj).1)
                            have hS9 : Same lo7 hi7 wB wG := (J9.out.below hszr hBcW).grown (by rw [size_alloc]; omega) hgrowG J10.out
                            have hTG : Toks 84 wG H4 (.slice (some ⟨gg, 0, none⟩) (dn.length + 1) cc) (dn ++ [⟨pk, qd, false⟩]) := by
                              unfold Toks
                              rw [tcs_append, List.length_append]
                              exact hownG
                            have r1 : k + 1 = (dc ++ [t]).length := by rw [List.length_append, ← J1.out]; rfl
                            have r2 : cuts r = (dc ++ [t]) ++ ts' := by rw [J2.out, List.append_assoc]; rfl
                            have r3 : t = (dc ++ [t]).getLastD 0 := by rw [List.getLastD_concat]
                            have r5 : (dn ++ [⟨pk, qd, false⟩]) ++ ptok r (if k + 1 = 0 then preAt raws i else [45]) t ts' = done ++ rtok r (preAt raws i) := by
                              rw [if_neg (Nat.succ_ne_zero k), ← HF5.out, HNV.out, ← J5.out, ptok, ← HPK.out, ← HQE.out, List.append_assoc]; rfl
                            have r6 : hi7 ≤ wG.heap.size := by have := hgrowG.size; rw [size_alloc] at this; omega
                            have r7 : ∀ j, (Value.slice (some ⟨gg, 0, none⟩) (dn.length + 1) cc).ownBlock = some j → j < lo7 ∨ hi7 ≤ j := by
                              intro j hj
                              injection hj with hj
                              have hj : gg = j := hj
                              rcases hatG with h | h
                              · exact J10.out j (by rw [h, hj])
                              · rw [size_alloc] at h; omega
                            have r8 : Value.int IntKind.i64 ((k : Int) + 1) = .int .i64 ((k + 1 : Nat) : Int) := by rw [Int.natCast_add]; rfl
                            have r9 : (transA 0 r).length + 1 - (intOf (Value.int IntKind.i64 ((k : Int) + 1))).toNat < (transA 0 r).length + 1 - (intOf (Value.int IntKind.i64 (k : Int))).toNat := by
                              simp only [intOf]; omega
                            refine ⟨⟨_, pk, k + 1, t, dn ++ [⟨pk, qd, false⟩], dc ++ [t], ts', rfl, rfl, rfl, r8, Lib.hid r1, Lib.hid r2, Lib.hid r3, Lib.hid (fun h => absurd h (Nat.succ_ne_zero k)), Lib.hid r5, Lib.hid hTG, Lib.hid hB7, Lib.hid hS8, Lib.hid hS9, r6, Lib.hid r7, hkl⟩, ?_⟩
                            exact r9
          · have hke : k = (transA 0 r).length + 1 := by omega
            have hts : ts = [] := by
              have h1 := congrArg List.length J2.out
              rw [HNCU.out, List.length_append, ← J1.out, hke] at h1
              exact List.eq_nil_of_length_eq_zero (by omega)
            have hdn : dn ++ tokR (preAt raws (i + 2)) (raws.drop (i + 2)) = T := by
              have h5 := J5.out
              rw [hts, ptok, List.append_nil] at h5
              rw [h5, ← H1.out, tokR_step HR.out, List.append_assoc]
            have hevn : evenOk (raws.drop (i + 2)) := by
              have := H2.out
              rw [List.drop_eq_getElem_cons hil] at this
              have h2 := ((evenOk_cons _ _).1 this).2
              rwa [List.drop_drop, show i + 1 + 1 = i + 2 by omega] at h2
            have hszz : H4 ≤ wr.heap.size := by omega
            have HDN := Lib.hid hdn
            have HEVN := Lib.hid hevn
            clear hke hts hdn hevn
            go_wp2_with fail
            go_roundw
            case rel => exact ⟨_, vo, i + 2, dn, rfl, rfl, by simp, by omega, HDN, HEVN, J6, J7, J8, hszz⟩
            case measure => simp only [intOf]; omega
    · have hdone : done = T := by
        have := H1.out
        rw [List.drop_eq_nil_of_le (by omega), tokR_nil, List.append_nil] at this
        exact this
      have hTT : Toks 84 wr H4 v T := hdone ▸ H3.out
      have hfg : ∀ t ∈ T, t.v ≠ sFinal ∧ t.v ≠ sGa := by rw [HTL.out]; exact tokR_noFG l
      have hvl : ∃ a c, v = .slice a T.length c := by
        rcases hTT.2 with ⟨h, h0⟩ | ⟨g, cap, cur, h, _⟩
        · exact ⟨none, 0, by rw [h, h0]⟩
        · exact ⟨_, _, h⟩
      obtain ⟨av, cv, rfl⟩ := hvl
      have HTT := Lib.hid hTT
      have HFG := Lib.hid hfg
      clear hdone hTT hfg
      go_wp2_with fail
      go_loopw [3, 14] (fun o z wr => ∃ (v : Value) (a b : List Tok) (j : Int), v = o ∧ z = .int .i64 j ∧ Hid (Toks 84 wr H4 v (a ++ b)) ∧ Hid (trimM a ++ b = trimM T) ∧ Hid (j + 1 = (a.length : Int) ∨ (j ≤ 0 ∧ trimM a = a)) ∧ Hid (∀ t ∈ a ++ b, t.v ≠ sFinal ∧ t.v ≠ sGa) ∧ Hid (Below wo.heap.size wo wr) ∧ Hid (Same wo.heap.size H4 w2 wr) ∧ H4 ≤ wr.heap.size ∧ -2 ≤ j ∧ j ≤ 1000000 ∧ (a ++ b).length ≤ l.length + 1) (fun _ z _ => (intOf z).toNat)
      case atStart => exact ⟨_, T, [], _, rfl, rfl, Lib.hid (by rw [List.append_nil]; exact HTT.out), Lib.hid (by simp), Lib.hid (.inl (by omega)), Lib.hid (by simpa using HFG.out), H5, H6, hsz, by omega, by omega, by simpa using hTl⟩
      case round =>
        obtain ⟨vv, a, b, j, rfl, rfl, L1, L2, L3, L4, L5, L6, hszL, hj1, hj2, hlen⟩ := hrel
        by_cases hjp : 0 < j
        · have hja : j + 1 = (a.length : Int) := by
            rcases L3.out with h | ⟨h, _⟩
            · exact h
            · omega
          obtain ⟨a', t, ha'⟩ : ∃ a' t, a = a' ++ [t] := by
            rcases List.eq_nil_or_concat a with h | ⟨l', x, h⟩
            · subst h; simp at hja; omega
            · exact ⟨l', x, by rw [h, List.concat_eq_append]⟩
          subst ha'
          have hjn : j = ((a'.length : Nat) : Int) := by simp at hja; omega
          have hT1 : Toks 84 wr H4 vv (a' ++ t :: b) := by have := L1.out; rwa [List.append_assoc] at this
          obtain ⟨g, cap, hvv, q1, q2, c0, c1, c2⟩ := hT1.read
          have hfg := L4.out t (by simp)
          have hst := fun w (hc : w.cell? ⟨g, a'.length * 3 + 1, none⟩ = some (.string (str t.v))) => shouldTrim_any g (a'.length * 3) t w hc hfg.1 hfg.2
          have HST := Lib.hid hst
          have HT1 := Lib.hid hT1
          have HC := Lib.hid (And.intro c0 (And.intro c1 c2))
          subst hvv
          subst hjn
          clear hja hst hfg hT1 c0 c1 c2
          have hlt0 : (a'.length : Int) < ((a'.length + b.length + 1 : Nat) : Int) := by omega
          go_wp2_with fail
          (with_reducible refine (HST.out _ HC.out.2.1).mono ?_)
          rintro e w9 ⟨rfl, rfl⟩
          by_cases hnull : isNull t = true
          · rw [hnull]
            have HNU := Lib.hid hnull
            clear hnull
            obtain ⟨row, hr9, hT9, hg9⟩ := remove_run g cap H4 a' b t wr.drew HT1.out
            have HR9 := Lib.hid hr9
            have HT9 := Lib.hid hT9
            have HG9 := Lib.hid hg9
            clear hr9 hT9 hg9
            have hw1 : IntKind.i64.wrap ((a'.length : Int) + 1) = (a'.length : Int) + 1 := IntWalk.i64_in _ (by omega)
            have hp0 : (0 : Int) ≤ (a'.length : Int) + 1 := by omega
            have hp1 : (a'.length : Int) + 1 ≤ ((a'.length + b.length + 1 : Nat) : Int) := by omega
            have hp2 : ((a'.length : Int) + 1).toNat = a'.length + 1 := by omega
            have hcap : a'.length + b.length + 1 ≤ cap := by
              rcases HT1.out.2 with ⟨h, _⟩ | ⟨g', cap', cur, h, _, _, h2, _⟩
              · cases h
              · injection h with _ h3 h4; omega
            have sl1 := slice_to g (a'.length + b.length + 1) cap a'.length (by omega)
            have sl2 := slice_from g (a'.length + b.length + 1) cap (a'.length + 1) (by omega)
            rw [show a'.length + b.length + 1 - (a'.length + 1) = b.length by omega, show ((a'.length + 1 : Nat) : Int) = (a'.length : Int) + 1 by omega] at sl2
            obtain ⟨A2, hA2⟩ : ∃ A2, A2 = (if cap = a'.length + 1 then some (⟨g, 0, none⟩ : Addr) else some ⟨g, (a'.length + 1) * 3, none⟩) := ⟨_, rfl⟩
            rw [← hA2] at sl2
            have hr9 := HR9.out
            rw [← hA2] at hr9
            have HR10 := Lib.hid hr9
            clear hA2 hr9
            go_wp2_with fail
            go_region_held3 (fun _ => True) (first | trivial) ((refine step_append_eq (by rfl) (.tmp 115) (.tmp 119) 64 (by rfl) (.slice (some ⟨g, 0, none⟩) a'.length cap) (.slice A2 b.length (cap - (a'.length + 1))) _ _ (by rfl) (by rfl) HR10.out ?_))
            obtain ⟨w10, hw10⟩ : ∃ w10, w10 = wr.drew.setRow g row := ⟨_, rfl⟩
            rw [← hw10]
            have hT10 : Toks 84 w10 H4 (.slice (some ⟨g, 0, none⟩) (a'.length + b.length) cap) (a' ++ b) := by rw [hw10]; exact HT9.out
            have hG10 : wr.grownBy w10 (some g) := by rw [hw10]; exact grown_trans (grownBy_drew wr (some g)) HG9.out
            have hB10 : Below wo.heap.size wo w10 := L5.out.grown hG10 L5.out.size (fun k hk => by injection hk with hk; omega)
            have hS10 : Same wo.heap.size H4 w2 w10 := L6.out.grown hszL hG10 (fun k hk => by injection hk with hk; omega)
            have hne : a' ≠ [] := fun e => by rw [e] at hjp; simp at hjp
            have hL2 : trimM a' ++ b = trimM T := by rw [← L2.out, trimM_null hne HNU.out]
            have hL4 : ∀ t ∈ a' ++ b, t.v ≠ sFinal ∧ t.v ≠ sGa := fun x hx => L4.out x (by
              rcases List.mem_append.1 hx with h | h
              · simp [h]
              · simp [h])
            have hH10 : H4 ≤ w10.heap.size := Nat.le_trans hszL hG10.size
            have HT10 := Lib.hid hT10
            have HB10 := Lib.hid hB10
            have HS10 := Lib.hid hS10
            have HL2 := Lib.hid hL2
            have HL4 := Lib.hid hL4
            have hlen2 : (a' ++ b).length ≤ l.length + 1 := by simp at hlen ⊢; omega
            clear hw10 hT10 hG10 hB10 hS10 hne hL2 hL4
            go_wp2_with fail
            go_roundw
            case rel => exact ⟨_, a', b, (a'.length : Int) - 1, rfl, rfl, HT10, HL2, Lib.hid (.inl (by omega)), HL4, HB10, HS10, hH10, by omega, by omega, hlen2⟩
            case measure => simp only [intOf]; omega
          · have hnf : isNull t = false := by simpa using hnull
            rw [hnf]
            have HNU := Lib.hid hnf
            clear hnf hnull
            go_wp2_with fail
            obtain ⟨w9, rfl⟩ : ∃ w9 : World, w9 = wr := ⟨_, rfl⟩
            go_loopw [14] (fun z wr => ∃ (a1 b1 : List Tok), z = .int .i64 ((a1.length : Int) - 1) ∧ Hid (a' ++ [t] = a1 ++ b1) ∧ Hid (∀ x ∈ b1, x.p ≠ [45]) ∧ wr = w9) (fun z _ => ((intOf z) + 1).toNat)
            case atStart => exact ⟨a' ++ [t], [], by simp, Lib.hid (by simp), Lib.hid (by simp), rfl⟩
            case round =>
              obtain ⟨a1, b1, rfl, M1, M2, rfl⟩ := hrel
              rcases List.eq_nil_or_concat a1 with ha1 | ⟨a2, x, ha1⟩
              · subst ha1
                have htr : trimM (a' ++ [t]) = a' ++ [t] := by
                  refine trimM_none ?_ ?_
                  · rw [List.getLastD_concat]; exact HNU.out
                  · have := M1.out
                    rw [List.nil_append] at this
                    rw [this]; exact M2.out
                have HTRM := Lib.hid htr
                have hlen2 : (a' ++ [t] ++ b).length ≤ l.length + 1 := hlen
                clear htr
                go_wp2_with fail
                go_roundw
                case rel => exact ⟨_, a' ++ [t], b, -2, rfl, by simp, L1, L2, Lib.hid (.inr ⟨by omega, HTRM.out⟩), L4, L5, L6, hszL, by omega, by omega, hlen2⟩
                case measure => simp only [intOf]; simp; omega
              · rw [List.concat_eq_append] at ha1
                subst ha1
                have hlist : a' ++ t :: b = a2 ++ x :: (b1 ++ b) := by
                  have h1 : a' ++ t :: b = (a' ++ [t]) ++ b := by simp
                  rw [h1, M1.out]; simp
                have hr := HT1.out
                rw [hlist] at hr
                obtain ⟨g2, cap2, hv2, _, _, c0, _, _⟩ := hr.read
                injection hv2 with e1 e2 e3
                injection e1 with e1
                injection e1 with e1
                subst e1
                have hl2 : a2.length < a'.length + b.length + 1 := by
                  have := congrArg List.length hlist
                  simp at this; omega
                have hix : (((a2 ++ [x]).length : Nat) : Int) - 1 = (a2.length : Int) := by simp
                rw [hix]
                have HLI := Lib.hid hlist
                have hll : (a2 ++ x :: (b1 ++ b)).length ≤ l.length + 1 := by rw [← hlist]; simpa using hlen
                have ha2 : a2.length ≤ 1000000 := by have := hll; simp at this; omega
                clear hr hlist e2 e3 hix
                have hb1' : (a2.length : Int) < ((a'.length + b.length + 1 : Nat) : Int) := by omega
                by_cases hxp : x.p = [45]
                · have m1 : (x.p == [45]) = true := by simp [hxp]
                  have hcut : trimM (a' ++ [t]) = trimM a2 ++ x :: b1 := by
                    have h1 : a' ++ [t] = a2 ++ x :: b1 := by rw [M1.out]; simp
                    rw [h1]
                    refine trimM_cut ?_ hxp M2.out
                    have h2 : (a2 ++ x :: b1).getLastD ⟨[], [], false⟩ = t := by rw [← h1, List.getLastD_concat]
                    have h3 : (a2 ++ x :: b1).getLastD ⟨[], [], false⟩ = (x :: b1).getLastD ⟨[], [], false⟩ := by
                      rw [List.getLastD_eq_getLast?, List.getLastD_eq_getLast?, List.getLast?_append]
                      cases hgl : (x :: b1).getLast? with
                      | none => simp at hgl
                      | some y => rfl
                    rw [← h3, h2]; exact HNU.out
                  have hL2 : trimM a2 ++ (x :: (b1 ++ b)) = trimM T := by rw [← L2.out, hcut]; simp
                  have hrow : Toks 84 wr H4 (.slice (some ⟨g, 0, none⟩) (a'.length + b.length + 1) cap) (a2 ++ x :: (b1 ++ b)) := by rw [← HLI.out]; exact HT1.out
                  have hL4 : ∀ y ∈ a2 ++ x :: (b1 ++ b), y.v ≠ sFinal ∧ y.v ≠ sGa := fun y hy => L4.out y (by rw [← HLI.out] at hy; simpa using hy)
                  have HL2 := Lib.hid hL2
                  have HROW := Lib.hid hrow
                  have HL4 := Lib.hid hL4
                  have HXP := Lib.hid hxp
                  clear hcut hL2 hrow hL4 hxp
                  go_wp2_with fail
                  go_roundw
                  case rel => exact ⟨_, a2, x :: (b1 ++ b), (a2.length : Int) - 1, rfl, rfl, HROW, HL2, Lib.hid (.inl (by omega)), HL4, L5, L6, hszL, by omega, by omega, hll⟩
                  case measure => simp only [intOf]; have := congrArg List.length M1.out; simp at this; omega
                · have m1 : (x.p == [45]) = false := by simp [hxp]
                  have HXP := Lib.hid hxp
                  clear hxp
                  go_wp2_with fail
                  go_roundw
                  case rel => exact ⟨a2, x :: b1, by simp, Lib.hid (by rw [M1.out]; simp), Lib.hid (fun y hy => by
                    rcases List.mem_cons.1 hy with rfl | hy
                    · exact HXP.out
                    · exact M2.out y hy), trivial⟩
                  case measure => simp only [intOf]; omega
        · have hfin : a ++ b = trimM T := by
            rw [← L2.out]
            rcases L3.out with h | ⟨_, h⟩
            · rw [trimM_short (by omega)]
            · rw [h]
          have hTF : Toks 84 wr H4 vv (trimM T) := hfin ▸ L1.out
          have hmv : trimM T = mvTokens l := by rw [HTL.out]; rfl
          have hres : Arr wr wo.heap.size 66 [Value.slice none 0 0] := (L6.out wo.heap.size (Nat.le_refl _) h4lt).trans HRES.out
          have hrf := hres.free 0
          have hrc : wr.cell? ⟨wo.heap.size, 0, none⟩ = some (.slice none 0 0) := hres.cell rfl
          obtain ⟨ax, nx, cx, hvx⟩ : ∃ a n c, vv = .slice a n c := by
            rcases hTF.2 with ⟨h, _⟩ | ⟨g, cap, cur, h, _⟩
            · exact ⟨none, 0, 0, h⟩
            · exact ⟨_, _, _, h⟩
          subst hvx
          have HTF := Lib.hid hTF
          have HMV := Lib.hid hmv
          have HRS := Lib.hid hres
          clear hfin hTF hmv hres
          go_wp2_with fail
          have q0 : (wr.setCell ⟨wo.heap.size, 0, none⟩ (.slice ax nx cx)).cell? ⟨wo.heap.size, 0, none⟩ = some (.slice ax nx cx) := (HRS.out.set 0 (.slice ax nx cx)).cell rfl
          refine bodyPost_ret (v := .agg #[.slice ax nx cx]) (by simp [results, Tryz.results52, go_sem, q0]) rfl ⟨_, rfl, ?_, ?_⟩
          · rw [← HMV.out]
            have hk := HTF.out.kept (grownBy_set wr wo.heap.size 0 (.slice ax nx cx)) (by
              cases hv : (Value.slice ax nx cx).ownBlock with
              | none => exact .inl rfl
              | some g => right; intro e; injection e with e; have := (HTF.out.lt g hv).1; omega)
            exact ownsRow_mono hk (Nat.le_of_lt h4lt)
          · exact L5.out.setCell (Nat.le_refl _) _
end Go.Proofs.Tz
