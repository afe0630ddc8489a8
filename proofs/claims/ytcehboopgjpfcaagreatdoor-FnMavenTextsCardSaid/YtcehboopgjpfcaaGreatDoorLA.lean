/- L1 L2 L3 L4 in one text. -/
import Derived.Test.YtcehboopgjpfcaaGreatDoorEA
import Derived.Test.YtcehboopgjpfcaaGreatDoorPA
import Derived.Laws.StructEq
/- Contracts of the helpers of the statements: digits, words. -/
namespace Go.Proofs.Tz
open Go.RowKit Mv

theorem take_all {l : Bs} {P : UInt8 → Prop} {i : Nat} {c : UInt8} (h : ∀ x ∈ l.take i, P x) (hc : l[i]? = some c) (hp : P c) : ∀ x ∈ l.take (i + 1), P x := by
  intro x hx
  rw [take_snoc hc] at hx
  rcases List.mem_append.1 hx with hx | hx
  · exact h x hx
  · simp at hx; subst hx; exact hp
theorem nil_test (l : Bs) : (str l).toList.isEmpty = l.isEmpty := by rw [str_toList]

set_option maxHeartbeats 1000000 in
theorem digits_any (l : Bs) (hl : l.length ≤ 1000000000) (w : World) :
    Calls Tryz.prog 19 #[.string (str l)] w fun e w' => e = .returned (.bool (allDig l)) ∧ w = w' := by
  have hsl : (str l).size = l.length := str_size l
  have htl := str_toList
  go_enter Tryz.func19, Tryz.ntmps19
  go_wp2_with fail
  go_loop [3] (fun x => ∃ i : Nat, x = .int .i64 (i : Int) ∧ i ≤ l.length ∧ Hid (∀ c ∈ l.take i, isDig c = true)) (fun x => l.length - (intOf x).toNat)
  case atStart => exact ⟨0, rfl, Nat.zero_le _, Lib.hid (by simp)⟩
  case round =>
    obtain ⟨i, rfl, hi, H⟩ := hrel
    by_cases hil : i < l.length
    · obtain ⟨c, hc⟩ : ∃ c, l[i]? = some c := ⟨_, List.getElem?_eq_getElem hil⟩
      have q2 := str_index hc
      have HC := Lib.hid hc
      clear hc
      unfold byt at q2
      by_cases h1 : c.toNat < 48
      · have hd : allDig l = false := by
          cases h : allDig l
          · rfl
          · have := (isDig_iff c).1 (((allDig_iff l).1 h).2 c (List.mem_of_getElem? HC.out)); omega
        have HD := Lib.hid hd
        have hb : decide ((c.toNat : Int) < 48) = true := by simp; omega
        have HH := Lib.hid h1
        clear hd h1
        go_wp2_with fail
        go_ret
        exact ⟨by rw [HD.out]; rfl, rfl⟩
      · by_cases h2 : 57 < c.toNat
        · have hd : allDig l = false := by
            cases h : allDig l
            · rfl
            · have := (isDig_iff c).1 (((allDig_iff l).1 h).2 c (List.mem_of_getElem? HC.out)); omega
          have HD := Lib.hid hd
          have hb : decide ((c.toNat : Int) < 48) = false := by simp; omega
          have hb2 : decide ((c.toNat : Int) > 57) = true := by simp; omega
          have HH := Lib.hid (And.intro h1 h2)
          clear hd h1 h2
          go_wp2_with fail
          go_ret
          exact ⟨by rw [HD.out]; rfl, rfl⟩
        · have hb : decide ((c.toNat : Int) < 48) = false := by simp; omega
          have hb2 : decide ((c.toNat : Int) > 57) = false := by simp; omega
          have hd := (isDig_iff c).2 ⟨by omega, by omega⟩
          have HN := Lib.hid (take_all H.out HC.out hd)
          clear hd h1 h2
          go_wp2_with fail
          go_round
          case rel => exact ⟨i + 1, by go_num, by omega, HN⟩
          case measure => simp [intOf]; omega
    · have hie : i = l.length := by omega
      have hd : allDig l = !l.isEmpty := by
        cases l with
        | nil => rfl
        | cons a r =>
          refine (allDig_iff _).2 ⟨by simp, fun c hc => H.out c ?_⟩
          rw [List.take_of_length_le (by omega)]; exact hc
      have HD := Lib.hid hd
      clear hd hie
      by_cases he : l = []
      · subst he
        go_wp2_with fail
        go_ret
        exact ⟨by rw [HD.out]; rfl, rfl⟩
      · have e1 : l.isEmpty = false := by simp [he]
        have HE := Lib.hid he
        clear he
        go_wp2_with fail
        go_ret
        exact ⟨by rw [HD.out, e1]; rfl, rfl⟩

set_option maxHeartbeats 1000000 in
theorem words_any (l : Bs) (hl : l.length ≤ 1000000000) (w : World) :
    Calls Tryz.prog 18 #[.string (str l)] w fun e w' => e = .returned (.bool (isWord l)) ∧ w = w' := by
  have hsl : (str l).size = l.length := str_size l
  have htl := str_toList
  go_enter Tryz.func18, Tryz.ntmps18
  go_wp2_with fail
  go_loop [3, 4] (fun x z => ∃ (i : Nat) (zv : Value), zv = z ∧ x = .int .i64 (i : Int) ∧ i ≤ l.length ∧ Hid (∀ c ∈ l.take i, isLet c = true)) (fun x _ => l.length - (intOf x).toNat)
  case atStart => exact ⟨0, _, rfl, rfl, Nat.zero_le _, Lib.hid (by simp)⟩
  case round =>
    obtain ⟨i, zv, rfl, rfl, hi, H⟩ := hrel
    by_cases hil : i < l.length
    · obtain ⟨c, hc⟩ : ∃ c, l[i]? = some c := ⟨_, List.getElem?_eq_getElem hil⟩
      have q2 := str_index hc
      have HC := Lib.hid hc
      clear hc
      unfold byt at q2
      have hno : isLet c = false → isWord l = false := fun h => by
        cases hw : isWord l
        · rfl
        · have := ((isWord_iff l).1 hw).2 c (List.mem_of_getElem? HC.out)
          rw [h] at this; cases this
      have b1 : decide ((c.toNat : Int) ≥ 97) = decide (97 ≤ c.toNat) := by simp; omega
      have b2 : decide ((c.toNat : Int) ≤ 122) = decide (c.toNat ≤ 122) := by simp; omega
      have b3 : decide ((c.toNat : Int) ≥ 65) = decide (65 ≤ c.toNat) := by simp; omega
      have b4 : decide ((c.toNat : Int) ≤ 90) = decide (c.toNat ≤ 90) := by simp; omega
      by_cases h1 : 97 ≤ c.toNat
      · by_cases h2 : c.toNat ≤ 122
        · have HN := Lib.hid (take_all H.out HC.out ((isLet_iff c).2 (.inl ⟨h1, h2⟩)))
          simp only [h1, h2, decide_true] at b1 b2
          clear hno b3 b4 h1 h2
          go_wp2_with fail
          go_round
          case rel => exact ⟨i + 1, _, rfl, by go_num, by omega, HN⟩
          case measure => simp [intOf]; omega
        · have hd := hno (by cases h : isLet c <;> first | rfl | (have := (isLet_iff c).1 h; omega))
          have HD := Lib.hid hd
          have h4 : ¬ c.toNat ≤ 90 := by omega
          have h3 : 65 ≤ c.toNat := by omega
          simp only [h1, h2, h3, h4, decide_true, decide_false] at b1 b2 b3 b4
          clear hd hno h1 h2 h3 h4
          go_wp2_with fail
          go_ret
          exact ⟨by rw [HD.out]; rfl, rfl⟩
      · by_cases h3 : 65 ≤ c.toNat
        · by_cases h4 : c.toNat ≤ 90
          · have HN := Lib.hid (take_all H.out HC.out ((isLet_iff c).2 (.inr ⟨h3, h4⟩)))
            simp only [h1, h3, h4, decide_true, decide_false] at b1 b3 b4
            clear hno b2 h1 h3 h4
            go_wp2_with fail
            go_round
            case rel => exact ⟨i + 1, _, rfl, by go_num, by omega, HN⟩
            case measure => simp [intOf]; omega
          · have hd := hno (by cases h : isLet c <;> first | rfl | (have := (isLet_iff c).1 h; omega))
            have HD := Lib.hid hd
            simp only [h1, h3, h4, decide_true, decide_false] at b1 b3 b4
            clear hd hno b2 h1 h3 h4
            go_wp2_with fail
            go_ret
            exact ⟨by rw [HD.out]; rfl, rfl⟩
        · have hd := hno (by cases h : isLet c <;> first | rfl | (have := (isLet_iff c).1 h; omega))
          have HD := Lib.hid hd
          simp only [h1, h3, decide_false] at b1 b3
          clear hd hno b2 b4 h1 h3
          go_wp2_with fail
          go_ret
          exact ⟨by rw [HD.out]; rfl, rfl⟩
    · have hd : isWord l = !l.isEmpty := by
        cases l with
        | nil => rfl
        | cons a r =>
          refine (isWord_iff _).2 ⟨by simp, fun c hc => H.out c ?_⟩
          rw [List.take_of_length_le (by omega)]; exact hc
      have HD := Lib.hid hd
      clear hd
      by_cases he : l = []
      · subst he
        go_wp2_with fail
        go_ret
        exact ⟨by rw [HD.out]; rfl, rfl⟩
      · have e1 : l.isEmpty = false := by simp [he]
        have HE := Lib.hid he
        clear he
        go_wp2_with fail
        go_ret
        exact ⟨by rw [HD.out, e1]; rfl, rfl⟩
end Go.Proofs.Tz

/- Contracts of the helpers of the statements: decimal. -/
namespace Go.Proofs.Tz
open Go.RowKit Mv

theorem str_append (a b : Bs) : str a ++ str b = str (a ++ b) := by
  apply ByteArray.ext
  simp [str]

theorem dec_len (n : Nat) : (dec n).length ≤ n + 1 := by
  induction n using Nat.strongRecOn with
  | _ n ih =>
    by_cases h : n < 10
    · rw [dec_lt h]; simp
    · rw [dec_ge h, List.length_append]
      have := ih (n / 10) (by omega)
      simp only [List.length_singleton]; omega
def dg (k : Nat) : UInt8 := UInt8.ofNat (48 + k % 10)
theorem encode_digit (k : Nat) : Utf8.encode (48 + (k : Int) % 10) = str [dg k] := by
  unfold dg
  have h : k % 10 < 10 := Nat.mod_lt _ (by decide)
  have e : (48 + (k : Int) % 10) = ((48 + k % 10 : Nat) : Int) := by omega
  rw [e]
  generalize k % 10 = d at h
  match d, h with
  | 0, _ => rfl
  | 1, _ => rfl
  | 2, _ => rfl
  | 3, _ => rfl
  | 4, _ => rfl
  | 5, _ => rfl
  | 6, _ => rfl
  | 7, _ => rfl
  | 8, _ => rfl
  | 9, _ => rfl

set_option maxHeartbeats 1000000 in
theorem decimal_any (n : Nat) (hn : n < 65536) (w : World) :
    Calls Tryz.prog 25 #[.int .u16 (n : Int)] w fun e w' => e = .returned (.string (str (dec n))) ∧ w = w' := by
  have hdl := dec_len n
  have hss := str_size
  go_enter Tryz.func25, Tryz.ntmps25
  go_wp2_with fail
  go_loop [0, 3] (fun x s => ∃ (k : Nat) (t : Bs), x = .int .u16 (k : Int) ∧ s = .string (str t) ∧ k ≤ n ∧ Hid (dec k ++ t = dec n)) (fun x _ => (intOf x).toNat)
  case atStart => exact ⟨n, [], rfl, rfl, Nat.le_refl _, Lib.hid (by simp)⟩
  case round =>
    obtain ⟨k, t, rfl, rfl, hk, H⟩ := hrel
    have he := encode_digit k
    have htl : t.length ≤ 65536 := by
      have := congrArg List.length H.out
      rw [List.length_append] at this
      omega
    by_cases h0 : k < 10
    · have hz : ((k : Int) / 10 == 0) = true := by simp; omega
      have HK := Lib.hid h0
      clear h0
      go_wp2_with fail
      go_ret
      refine ⟨?_, rfl⟩
      rw [← H.out, dec_lt HK.out]
      show Ending.returned (Value.string (str [dg k] ++ str t)) = _
      rw [str_append, dg, Nat.mod_eq_of_lt HK.out]
    · have hz : ((k : Int) / 10 == 0) = false := by simp; omega
      have HK := Lib.hid h0
      clear h0
      go_wp2_with fail
      go_round
      case rel =>
        refine ⟨k / 10, dg k :: t, by go_num, ?_, by omega, Lib.hid ?_⟩
        · rw [str_append]; rfl
        · rw [← H.out, dec_ge HK.out, List.append_assoc]; rfl
      case measure => simp [intOf]; have := HK.out; omega
end Go.Proofs.Tz

/- Contracts of the helpers of the statements: tokens, short. -/
namespace Go.Proofs.Tz
open Go.RowKit Mv

theorem toks_form {T : TypeId} {w : World} {base : Nat} {v : Value} {ts : List Tok} (h : Toks T w base v ts) : ∃ a c, v = .slice a ts.length c := by
  rcases h.2 with ⟨h, h0⟩ | ⟨g, cap, cur, h, _⟩
  · exact ⟨none, 0, by rw [h, h0]⟩
  · exact ⟨_, _, h⟩
theorem toks_at {T : TypeId} {w : World} {base : Nat} {v : Value} {ts : List Tok} (h : Toks T w base v ts) {i : Nat} {t : Tok} (hi : ts[i]? = some t) :
    ∃ g cap, v = .slice (some ⟨g, 0, none⟩) ts.length cap ∧ base ≤ g ∧ g < w.heap.size ∧ w.cell? ⟨g, i * 3, none⟩ = some (.string (str t.p)) ∧ w.cell? ⟨g, i * 3 + 1, none⟩ = some (.string (str t.v)) ∧ w.cell? ⟨g, i * 3 + 2, none⟩ = some (.bool t.n) := by
  have hl := (List.getElem?_eq_some_iff.1 hi).1
  have hsp : ts = ts.take i ++ t :: ts.drop (i + 1) := by
    have h1 : ts.drop i = t :: ts.drop (i + 1) := by
      rw [List.drop_eq_getElem_cons hl]
      rw [List.getElem?_eq_getElem hl] at hi
      injection hi with hi; rw [hi]
    rw [← h1, List.take_append_drop]
  have hr := h
  rw [hsp] at hr
  obtain ⟨g, cap, hv, q1, q2, c0, c1, c2⟩ := hr.read
  have htk : (ts.take i).length = i := by rw [List.length_take]; omega
  rw [htk] at c0 c1 c2
  refine ⟨g, cap, ?_, q1, q2, c0, c1, c2⟩
  have : (ts.take i).length + (ts.drop (i + 1)).length + 1 = ts.length := by rw [List.length_take, List.length_drop]; omega
  rw [this] at hv
  exact hv

theorem fields40 : Tryz.prog.underlying 40 = some (.struct (Tryz.prog.fieldsOf 40)) := by kernel_rfl
theorem held40 : Tryz.prog.stoodInHeld 40 = false := by kernel_rfl
theorem guard40 : Tryz.prog.eqGuardType Tryz.prog.depth 40 = false := by kernel_rfl
theorem eq_tok (t u : Tok) (w : World) : (Op.equalIn 10000 40 (.agg #[.string (str t.p), .string (str t.v), .bool t.n]) (.agg #[.string (str u.p), .string (str u.v), .bool u.n])).run Tryz.prog w = .ok (decide (t = u)) w := by
  have u4 := Tryz.underlying4
  have u9 := Tryz.underlying9
  have a4 := Tryz.isAgg4
  have a9 := Tryz.isAgg9
  have z4 := Tryz.sizeOf4
  have z9 := Tryz.sizeOf9
  have htl := str_toList
  rw [show (10000 : Nat) = 9999 + 1 from rfl, run_equalIn_agg w 9999 40 _ _ fields40 held40]
  simp only [Program.fieldsOf, Tryz.underlying40]
  go_simp
  obtain ⟨p, v, n⟩ := t
  obtain ⟨p', v', n'⟩ := u
  by_cases h1 : p = p' <;> by_cases h2 : v = v' <;> by_cases h3 : n = n' <;> simp [h1, h2, h3]

set_option maxHeartbeats 2000000 in
theorem tokens_any (a b : List Tok) (va vb : Value) (ba bb : Nat) (w : World) (hA : Toks 40 w ba va a) (hB : Toks 40 w bb vb b) (hl : a.length ≤ 1000000) (hl2 : b.length ≤ 1000000) :
    Calls Tryz.prog 22 #[va, vb] w fun e w' => e = .returned (.bool (decide (a = b))) ∧ Below w.heap.size w w' := by
  obtain ⟨aa, ca, hva⟩ := toks_form hA
  obtain ⟨ab, cb, hvb⟩ := toks_form hB
  subst hva hvb
  have HA := Lib.hid hA
  have HB := Lib.hid hB
  clear hA hB
  by_cases hle : a.length = b.length
  · have m0 : ((a.length : Int) != (b.length : Int)) = false := by simp [hle]
    have HL := Lib.hid hle
    clear hle
    go_enter Tryz.func22, Tryz.ntmps22
    go_wp2_with fail
    obtain ⟨wo, rfl⟩ : ∃ wo : World, wo = w := ⟨_, rfl⟩
    go_loopw [5, 13] (fun z x wr => ∃ (zv : Value) (i : Nat), zv = z ∧ x = .int .i64 (i : Int) ∧ i ≤ a.length ∧ Hid (a.take i = b.take i) ∧ Hid (∃ n, wr = wo.drewN n)) (fun _ x _ => a.length - (intOf x).toNat)
    case atStart => exact ⟨_, 0, rfl, rfl, Nat.zero_le _, Lib.hid (by simp), Lib.hid ⟨0, rfl⟩⟩
    case round =>
      obtain ⟨zv, i, rfl, rfl, hi, H1, H2⟩ := hrel
      obtain ⟨n, rfl⟩ := H2.out
      by_cases hil : i < a.length
      · obtain ⟨t, ht⟩ : ∃ t, a[i]? = some t := ⟨_, List.getElem?_eq_getElem hil⟩
        obtain ⟨u, hu⟩ : ∃ u, b[i]? = some u := ⟨_, List.getElem?_eq_getElem (by have := HL.out; omega)⟩
        obtain ⟨ga, ca', hv1, _, _, a0, a1, a2⟩ := toks_at HA.out ht
        obtain ⟨gb, cb', hv2, _, _, b0, b1, b2⟩ := toks_at HB.out hu
        injection hv1 with e1 e2 e3
        injection hv2 with f1 f2 f3
        subst e1 f1
        have hblt : (i : Int) < (b.length : Int) := by have := HL.out; omega
        have hgd := guard40
        have heq := eq_tok t u
        have HT := Lib.hid (And.intro ht hu)
        clear ht hu e2 e3 f2 f3
        by_cases htu : t = u
        · rw [decide_eq_true htu] at heq
          have HN : Hid (a.take (i + 1) = b.take (i + 1)) := Lib.hid (by rw [take_snoc HT.out.1, take_snoc HT.out.2, H1.out, htu])
          clear htu
          go_wp2_with fail
          go_quiet (fail)
          go_wp2_with fail
          go_roundw
          case rel => exact ⟨_, i + 1, rfl, by go_num, by omega, HN, Lib.hid ⟨n + nq, rfl⟩⟩
          case measure => simp [intOf]; omega
        · rw [decide_eq_false htu] at heq
          have HN : Hid (a ≠ b) := Lib.hid (by rintro rfl; have h1 := HT.out.1; rw [HT.out.2] at h1; injection h1 with h1; exact htu h1.symm)
          clear htu
          go_wp2_with fail
          go_quiet (fail)
          go_wp2_with fail
          go_ret
          exact ⟨by rw [decide_eq_false HN.out]; rfl, below_drewN' (below_drewN' (Below.refl _ _) _) _⟩
      · have HN : Hid (a = b) := Lib.hid (by
          have h1 := H1.out
          rw [List.take_of_length_le (by omega), List.take_of_length_le (by have := HL.out; omega)] at h1
          exact h1)
        go_wp2_with fail
        go_ret
        exact ⟨by rw [decide_eq_true HN.out]; rfl, below_drewN' (Below.refl _ _) _⟩
  · have m0 : ((a.length : Int) != (b.length : Int)) = true := by simp; omega
    have HN : Hid (a ≠ b) := Lib.hid (by rintro rfl; exact hle rfl)
    clear hle
    go_enter Tryz.func22, Tryz.ntmps22
    go_wp2_with fail
    go_ret
    exact ⟨by rw [decide_eq_false HN.out]; rfl, Below.refl _ _⟩
end Go.Proofs.Tz

/- Contract of impl.MavenParse. -/
namespace Go.Proofs.Tz
open Go.RowKit Mv

theorem info40 : ∃ i z, Tryz.prog.info? 40 = some i ∧ i.zero = some z ∧ i.size = 3 ∧ i.bytes = 40 ∧ z.cells.size = 3 := by
  have h : (Tryz.prog.info? 40).map (fun i => (i.zero.map (fun z => z.cells.size), i.size, i.bytes)) = some (some 3, 3, 40) := by kernel_rfl
  obtain ⟨i, hi, hzz⟩ := Option.map_eq_some_iff.1 h
  simp only [Prod.mk.injEq] at hzz
  obtain ⟨z, hz, hzc⟩ := Option.map_eq_some_iff.1 hzz.1
  exact ⟨i, z, hi, hz, hzz.2.1, hzz.2.2, hzc⟩
theorem trimM_len (l : List Tok) : (trimM l).length ≤ l.length := by
  obtain ⟨n, hn⟩ : ∃ n, l.length = n := ⟨_, rfl⟩
  induction n using Nat.strongRecOn generalizing l with
  | _ n ih =>
    by_cases hl : l.length ≤ 1
    · rw [trimM_short hl]; exact Nat.le_refl _
    · rw [trimM, if_neg hl]
      split
      · have := ih (n - 1) (by omega) l.dropLast (by simp; omega)
        simp only [List.length_dropLast] at this; omega
      · split
        · exact Nat.le_refl _
        · rename_i k hk
          have hkl := lastHy_lt hk
          split
          · exact Nat.le_refl _
          · have := ih k (by omega) (l.take k) (by rw [List.length_take]; omega)
            rw [List.length_append, List.length_drop]
            rw [List.length_take] at this; omega
theorem mv_len (l : Bs) : (mvTokens l).length ≤ l.length + 1 := by
  rw [mvTokens]
  exact Nat.le_trans (trimM_len _) (tokR_len l)

set_option maxHeartbeats 4000000 in
set_option maxRecDepth 100000 in
theorem mparse_any (K : Nat) (HI : ItoaSaid K) (l : Bs) (hl : l.length ≤ 100000) (ha : Asc l) (hsm : Nums (WB ^ K) l) (w : World) (hE : EnvL w) :
    Calls Tryz.prog 21 #[.string (str l)] w fun e w' => ∃ v, e = .returned v ∧ Toks 40 w' w.heap.size v (mvTokens l) ∧ Below w.heap.size w w' := by
  obtain ⟨i40, z40, hi40, hz40, hs40, hb40, hc40⟩ := info40
  have hpa := parse_any K HI l hl ha hsm w hE
  have HPA := Lib.hid hpa
  obtain ⟨ts, hts⟩ : ∃ ts, ts = mvTokens l := ⟨_, rfl⟩
  have htl : ts.length ≤ 1000000 := by rw [hts]; have := mv_len l; omega
  rw [← hts]
  have HTS := Lib.hid hts
  clear hpa HI ha hsm hE hts
  go_enter Tryz.func21, Tryz.ntmps21
  go_wp2_with fail
  (with_reducible refine (HPA.out).mono ?_)
  rintro e w1 ⟨v, rfl, hT, hB⟩
  rw [← HTS.out] at hT
  have htold := told_any v ts w.heap.size w1 hT htl
  have HB1 := Lib.hid hB
  have HTO := Lib.hid htold
  clear hB htold hT
  go_wp2_with fail
  (with_reducible refine (HTO.out).mono ?_)
  rintro e w2 ⟨v2, rfl, hT2, hB2⟩
  obtain ⟨ax, cx, hvx⟩ : ∃ a c, v2 = .slice a ts.length c := by
    rcases hT2.2 with ⟨h, h0⟩ | ⟨g, cap, cur, h, _⟩
    · exact ⟨none, 0, by rw [h, h0]⟩
    · exact ⟨_, _, h⟩
  subst hvx
  have HT := Lib.hid hT2
  have hB12 : Below w.heap.size w w2 := HB1.out.trans (hB2.mono HB1.out.size)
  have HB2 := Lib.hid hB12
  clear hT2 hB2 hB12
  go_wp2_with fail
  obtain ⟨wo, hwo⟩ : ∃ wo : World, wo = w2 := ⟨_, rfl⟩
  rw [← hwo] at HT HB2 ⊢
  clear hwo
  go_loopw [3, 10] (fun o x wr => ∃ (vo : Value) (k : Nat), vo = o ∧ x = .int .i64 (k : Int) ∧ k ≤ ts.length ∧ Hid (wr.ownsRow wo.heap.size 40 3 vo k (tcs (ts.take k))) ∧ Hid (Below wo.heap.size wo wr)) (fun _ x _ => ts.length - (intOf x).toNat)
  case atStart => exact ⟨_, 0, rfl, rfl, Nat.zero_le _, Lib.hid (World.ownsRow_nil _ _ _ _), Lib.hid (Below.refl _ _)⟩
  case round =>
    obtain ⟨vo, k, rfl, rfl, hk, H1, H2⟩ := hrel
    by_cases hkl : k < ts.length
    · obtain ⟨t, ht⟩ : ∃ t, ts[k]? = some t := ⟨_, List.getElem?_eq_getElem hkl⟩
      have hsp : ts = ts.take k ++ t :: ts.drop (k + 1) := by
        have h1 : ts.drop k = t :: ts.drop (k + 1) := by
          rw [List.drop_eq_getElem_cons hkl]
          rw [List.getElem?_eq_getElem hkl] at ht
          injection ht with ht; rw [ht]
        rw [← h1, List.take_append_drop]
      have hr := HT.out.below H2.out
      rw [hsp] at hr
      obtain ⟨g, cap, hv, _, _, c0, c1, c2⟩ := hr.read
      have htk : (ts.take k).length = k := by rw [List.length_take]; omega
      rw [htk] at c0 c1 c2
      injection hv with e1 e2 e3
      subst e1
      have HTK := Lib.hid ht
      have hszo : wo.heap.size ≤ wr.heap.size := H2.out.size
      clear hsp hr e2 e3 htk ht
      go_wp2_with (first | (at_builtin; refine wpList_append_lies _ rfl (.tmp 14) (.tmp 16) 28 rfl wo.heap.size 40 i40 z40 3 40 Tryz.underlying28 hi40 hz40 hs40 hb40 hc40 (by decide) vo k (tcs (ts.take k)) rfl ((H1.out.alloc _).alloc _) ⟨wr.heap.size + 1, 0, none⟩ 1 1 [sv t.p, sv t.v, .bool t.n] rfl rfl (by have := World.news_of_block (cs := #[sv t.p, sv t.v, .bool t.n]) (t := 40) (fr := (0, 0)) (heap_alloc_new (wr.alloc (Obj.cells #[sv t.p, sv t.v, .bool t.n] 68)) _); rw [size_alloc] at this; exact this) (by intro u hu; simp at hu; rcases hu with rfl | rfl | rfl <;> rfl) (by decide) (by unfold maxLen; omega) (by omega) (by simp; omega) _ rfl ?_; intro gg cc w3 hown3 hgrow3 hat3 hlt3))
      have hB3 : Below wo.heap.size wo w3 := ((H2.out.alloc hszo _).alloc (by rw [size_alloc]; omega) _).grown hgrow3 (by rw [size_alloc, size_alloc]; omega) (fun j hj => (H1.out.lt j hj).1)
      have hO3 : w3.ownsRow wo.heap.size 40 3 (.slice (some ⟨gg, 0, none⟩) (k + 1) cc) (k + 1) (tcs (ts.take (k + 1))) := by
        have : tcs (ts.take (k + 1)) = tcs (ts.take k) ++ [sv t.p, sv t.v, .bool t.n] := by rw [take_snoc HTK.out, tcs_append]; rfl
        rw [this]; exact hown3
      have HB3 := Lib.hid hB3
      have HO3 := Lib.hid hO3
      clear hB3 hO3 hown3 hgrow3 hat3 hlt3
      go_wp2_with fail
      go_roundw
      case rel => exact ⟨_, k + 1, rfl, by go_num, by omega, HO3, HB3⟩
      case measure => simp [intOf]; omega
    · have hke : k = ts.length := by omega
      have HK := Lib.hid hke
      clear hke
      go_wp2_with fail
      go_ret
      refine ⟨_, rfl, ?_, HB2.out.trans (H2.out.mono HB2.out.size)⟩
      have h1 := H1.out
      rw [HK.out, List.take_of_length_le (Nat.le_refl _)] at h1
      exact ownsRow_mono h1 HB2.out.size
end Go.Proofs.Tz
