/- C1 C2 C3 C4 C5 in one text. -/
import Derived.Test.YtcehboopgjpfcaaGreatDoorAA
import Derived.Test.YtcehboopgjpfcaaGreatDoorPB
import Derived.BigQuiet
import Derived.Deep.QuietTactic
import Derived.WalkLawsBesides
import Derived.Test.YtcehboopgjpfcaaGreatDoorBA
import Derived.Test.YtcehboopgjpfcaaGreatDoorB3
import Derived.Laws.CopyOwn
import Derived.Laws.CopyRow
import Derived.Defers
import Derived.Test.YtcehboopgjpfcaaGreatDoorAB
import Derived.Laws.BytesArg
import Derived.Lib.SlBytesConst
import Derived.Test.YtcehboopgjpfcaaGreatDoorAC
import Derived.StillTailTactics
/- Contract of nat.divW by 10^19, of numbers of one word. -/
namespace Go.Proofs.Tz
open Go.RowKit Mv

def Y19 : Nat := 10000000000000000000

/-- What divW by 10^19 does, at numbers of at most K words. -/
def DivWSaid (K : Nat) : Prop := ∀ (b cap : Nat) (ws : List Nat) (cs : List Value) (w : World), Arr w b 160 cs → cs.length = cap → Sub cs 0 ws → 0 < ws.length → ws.length ≤ K → ws.length ≤ cap → cap ≤ 1000000000 → Ws ws →
  Calls Tryz.prog 151 #[.slice (some ⟨b, 0, none⟩) ws.length cap, .slice (some ⟨b, 0, none⟩) ws.length cap, .int .u64 10000000000000000000] w fun e w' =>
    e = .returned (.tuple #[.slice (some ⟨b, 0, none⟩) (normL (divL Y19 ws).1).length cap, .int .u64 ((divL Y19 ws).2 : Nat)]) ∧ Arr w' b 160 (put cs 0 (wds (divL Y19 ws).1)) ∧ w.grownBy w' (some b) ∧ w'.heap.size = w.heap.size

set_option maxHeartbeats 2000000 in
theorem bitsDiv64_low (x y : Nat) (hx : x < WB) (_hy : y < WB) (hy0 : y ≠ 0) (w : World) :
    Calls Tryz.prog 238 #[.int .u64 0, .int .u64 x, .int .u64 y] w fun e w' => e = .returned (.tuple #[.int .u64 ((x / y : Nat) : Int), .int .u64 ((x % y : Nat) : Int)]) ∧ ∃ q, w' = w.drewN q := by
  have h0 : ((y : Int) == 0) = false := by simp [hy0]
  have h1 : (1 : Int) ≤ (y : Int) := by omega
  have HX := Lib.hid hx
  clear hx
  go_enter Tryz.func238, Tryz.ntmps238
  go_wp2
  go_quiet (fail)
  go_wp2
  go_ret2
  refine ⟨ret_two ?_ ?_, ⟨_, rfl⟩⟩
  · have := wrap_u64_nat (x / y) (Nat.lt_of_le_of_lt (Nat.div_le_self _ _) HX.out)
    simpa using this
  · simp

set_option maxHeartbeats 2000000 in
theorem bitsDiv_low (x y : Nat) (hx : x < WB) (hy : y < WB) (hy0 : y ≠ 0) (w : World) :
    Calls Tryz.prog 202 #[.int .u64 0, .int .u64 x, .int .u64 y] w fun e w' => e = .returned (.tuple #[.int .u64 ((x / y : Nat) : Int), .int .u64 ((x % y : Nat) : Int)]) ∧ ∃ q, w' = w.drewN q := by
  have hd := bitsDiv64_low x y hx hy hy0 w
  have HD := Lib.hid hd
  clear hd hx hy hy0
  go_enter Tryz.func202, Tryz.ntmps202
  go_wp2_with fail
  (with_reducible refine HD.out.mono ?_)
  rintro e w' ⟨rfl, q, rfl⟩
  go_wp2_with fail
  go_ret2
  exact ⟨rfl, q, rfl⟩

set_option maxHeartbeats 2000000 in
theorem divWVW_one (b cap cap2 : Nat) (x y : Nat) (cs : List Value) (w : World) (hA : Arr w b 160 cs) (_hl : 0 < cs.length) (h0 : cs[0]? = some (word x)) (hx : x < WB) (hy : y < WB) (hy0 : y ≠ 0) :
    Calls Tryz.prog 174 #[.slice (some ⟨b, 0, none⟩) 1 cap, .int .u64 0, .slice (some ⟨b, 0, none⟩) 1 cap2, .int .u64 y] w fun e w' =>
      e = .returned (.int .u64 ((x % y : Nat) : Int)) ∧ Arr w' b 160 (cs.set 0 (word (x / y))) ∧ w.grownBy w' (some b) ∧ w'.heap.size = w.heap.size := by
  have hd := bitsDiv_low x y hx hy hy0 w
  have c0 : w.cell? ⟨b, 0, none⟩ = some (.int .u64 (x : Int)) := hA.cell h0
  have f0 := hA.free 0
  have HA := Lib.hid hA
  have HD := Lib.hid hd
  clear hd hx hy hy0 hA h0
  go_enter Tryz.func174, Tryz.ntmps174
  go_wp2_with fail
  (with_reducible refine HD.out.mono ?_)
  rintro e w' ⟨rfl, q, rfl⟩
  go_wp2_with fail
  go_ret
  refine ⟨rfl, ?_, ?_, ?_⟩
  · exact (HA.out.set 0 (word (x / y))).drewN q
  · exact grown_trans (grownBy_set _ _ _ _) (grownBy_drewN _ _ _)
  · simp [World.setCell]

theorem divW_one : DivWSaid 1 := by
  intro b cap ws cs w hA hc hs hp hK hl hcap hw
  obtain ⟨x, rfl⟩ : ∃ x, ws = [x] := by
    match ws, hp, hK with
    | [x], _, _ => exact ⟨x, rfl⟩
  have hx := hw x (by simp)
  have hs0 : cs[0]? = some (word x) := by simpa using hs 0 x rfl
  have hdiv : divL Y19 [x] = ([x / Y19], x % Y19) := by simp [divL]
  rw [hdiv]
  obtain ⟨q, hq⟩ : ∃ q, q = x / Y19 := ⟨_, rfl⟩
  have hwv := divWVW_one b cap cap x Y19 cs w hA (by simp at hl; omega) hs0 hx (by unfold Y19 WB; omega) (by unfold Y19; omega)
  rw [show ((Y19 : Nat) : Int) = 10000000000000000000 from rfl, ← hq] at hwv
  rw [← hq]
  have hset : put cs 0 (wds [q]) = cs.set 0 (word q) := by
    have := put_snoc (cs := cs) (vs := []) (off := 0) (v := word q) (by simp at hl ⊢; omega)
    simpa [put_nil, wds] using this
  rw [hset]
  have HWV := Lib.hid hwv
  have hcl : 1 ≤ cap := by simpa using hl
  have hcs : 0 < cs.length := by omega
  clear hwv hA hs hs0 hdiv hq hset hw hK hl hc
  simp only [List.length_singleton]
  go_enter Tryz.func151, Tryz.ntmps151
  go_wp2_with fail
  have hmf := make_fits (some ⟨b, 0, none⟩) 1 cap 1 hcl hcap w
  rw [show ((1 : Nat) : Int) = 1 from rfl] at hmf
  (with_reducible refine hmf.mono ?_)
  rintro e w1 ⟨rfl, rfl⟩
  clear hmf
  go_wp2_with fail
  (with_reducible refine HWV.out.mono ?_)
  rintro e w1 ⟨rfl, h1, h2, h3⟩
  have H1 := Lib.hid h1
  have H2 := Lib.hid h2
  have H3 := Lib.hid h3
  clear h1 h2 h3
  go_wp2_with fail
  have hn := norm_any b 0 cap [q] w1 (fun i y hy => H1.out.cell (by
    cases i with
    | zero => simp at hy; subst hy; rw [Nat.add_zero, List.getElem?_set_self hcs]
    | succ i => simp at hy)) (by simpa using hcl) (by simp)
  simp only [List.length_singleton] at hn
  (with_reducible refine hn.mono ?_)
  rintro e w2 ⟨rfl, rfl⟩
  clear hn
  go_wp2_with fail
  go_ret2
  exact ⟨rfl, H1.out, H2.out, H3.out⟩
end Go.Proofs.Tz

/- Contract of nat.convertWords without a table. -/
namespace Go.Proofs.Tz
open Go.RowKit Mv

def byt (c : UInt8) : Value := .int .u8 (c.toNat : Int)
def bts (l : Bs) : List Value := l.map byt
theorem bts_length (l : Bs) : (bts l).length = l.length := by simp [bts]
theorem bts_append (a b : Bs) : bts (a ++ b) = bts a ++ bts b := by simp [bts]
theorem bts_get {l : Bs} {i : Nat} {c : UInt8} (h : l[i]? = some c) : (bts l)[i]? = some (byt c) := by simp [bts, h]

/-- One value more, ahead of what is written. -/
theorem put_cons {cs vs : List Value} {off : Nat} {v : Value} (h : off + 1 + vs.length ≤ cs.length) : put cs off (v :: vs) = (put cs (off + 1) vs).set off v := by
  apply List.ext_getElem?
  intro j
  have hp := put_length (cs := cs) (vs := vs) (off := off + 1) (by omega)
  by_cases h1 : j < off
  · rw [put_get_lo (by omega) h1, List.getElem?_set_ne (by omega), put_get_lo (by omega) (by omega)]
  · by_cases h2 : j = off
    · subst h2
      have := put_get_in (cs := cs) (vs := v :: vs) (off := j) (i := 0) (by omega) (by simp)
      rw [Nat.add_zero] at this
      rw [this, List.getElem?_set_self (by omega)]; rfl
    · rw [List.getElem?_set_ne (by omega)]
      by_cases h3 : j < off + 1 + vs.length
      · obtain ⟨i, rfl⟩ : ∃ i, j = off + 1 + i := ⟨j - off - 1, by omega⟩
        have := put_get_in (cs := cs) (vs := v :: vs) (off := off) (i := i + 1) (by omega) (by simp; omega)
        rw [show off + (i + 1) = off + 1 + i by omega] at this
        rw [this, put_get_in (by omega) (by omega)]; rfl
      · rw [put_get_hi (by omega) (by simp; omega), put_get_hi (by omega) (by omega)]

/-- Only what P says is written; new blocks may be there. -/
structure Only (P : Nat → Prop) (w w' : World) : Prop where
  os : w'.os = w.os
  tape : w'.tape = w.tape
  output : w'.output = w.output
  size : w.heap.size ≤ w'.heap.size
  block : ∀ k, k < w.heap.size → ¬ P k → w'.heap[k]? = w.heap[k]?
theorem Only.refl (P : Nat → Prop) (w : World) : Only P w w := ⟨rfl, rfl, rfl, Nat.le_refl _, fun _ _ _ => rfl⟩
theorem Only.trans {P : Nat → Prop} {a b c : World} (h : Only P a b) (k : Only P b c) : Only P a c :=
  ⟨k.os.trans h.os, k.tape.trans h.tape, k.output.trans h.output, Nat.le_trans h.size k.size, fun i hi hp => (k.block i (Nat.lt_of_lt_of_le hi h.size) hp).trans (h.block i hi hp)⟩
theorem Only.of_grown {P : Nat → Prop} {a w w' : World} (h : Only P a w) {b : Nat} (hg : w.grownBy w' (some b)) (hb : P b) : Only P a w' :=
  h.trans ⟨hg.os, hg.tape, hg.output, hg.size, fun k hk hp => hg.block k hk (fun e => by injection e with e; subst e; exact hp hb)⟩
theorem Only.set {P : Nat → Prop} {a w : World} (h : Only P a w) {b : Nat} (hb : P b) (j : Nat) (v : Value) : Only P a (w.setCell ⟨b, j, none⟩ v) := h.of_grown (grownBy_set w b j v) hb
theorem Only.drewN {P : Nat → Prop} {a w : World} (h : Only P a w) (n : Nat) : Only P a (w.drewN n) := h.trans ⟨rfl, rfl, rfl, Nat.le_refl _, fun _ _ _ => rfl⟩
theorem Only.drew {P : Nat → Prop} {a w : World} (h : Only P a w) : Only P a w.drew := h.trans ⟨rfl, rfl, rfl, Nat.le_refl _, fun _ _ _ => rfl⟩
theorem Only.mono {P Q : Nat → Prop} {a w : World} (h : Only P a w) (hq : ∀ k, P k → Q k) : Only Q a w := ⟨h.os, h.tape, h.output, h.size, fun k hk hn => h.block k hk (fun hp => hn (hq k hp))⟩
theorem Only.below {P : Nat → Prop} {a w w' : World} (h : Only P a w) (hb : Below w.heap.size w w') : Only P a w' := h.trans ⟨hb.os, hb.tape, hb.output, hb.size, fun k hk _ => hb.block k hk⟩
theorem Arr.only {P : Nat → Prop} {w w' : World} {b : Nat} {T : TypeId} {cs : List Value} (h : Arr w b T cs) (ho : Only P w w') (hp : ¬ P b) : Arr w' b T cs := (ho.block b h.lt hp).trans h
theorem Only.toBelow {P : Nat → Prop} {B : Nat} {w w' : World} (h : Only P w w') (hp : ∀ k, P k → B ≤ k) (hB : B ≤ w.heap.size) : Below B w w' :=
  ⟨h.os, h.tape, h.output, h.size, fun k hk => h.block k (by omega) (fun hP => by have := hp k hP; omega)⟩

theorem digit_at (V k j : Nat) (hj : j < 19) : (V / 10 ^ k % Y19 / 10 ^ j) % 10 = V / 10 ^ (k + j) % 10 := by
  have hY : Y19 = 10 ^ j * 10 ^ (19 - j) := by rw [← Nat.pow_add, show j + (19 - j) = 19 by omega]; rfl
  rw [hY, Nat.mod_mul_right_div_self, Nat.div_div_eq_div_mul, ← Nat.pow_add]
  have : 10 ^ (19 - j) = 10 * 10 ^ (18 - j) := by rw [← Nat.pow_succ']; congr 1; omega
  rw [this, Nat.mod_mul_right_mod]

theorem fixd_front (m V : Nat) : fixd (m + 1) V = UInt8.ofNat (48 + V / 10 ^ m % 10) :: fixd m V := by
  rw [show m + 1 = 1 + m by omega, fixd_add]
  simp [fixd]

theorem dig_val {X : Nat} (hX : X < WB) : (48 + IntKind.u64.wrap ((X : Int) - IntKind.u64.wrap (IntKind.u64.wrap ((X : Int) / 10) * 10))) % 256 = ((48 + X % 10 : Nat) : Int) := by
  have h1 : IntKind.u64.wrap ((X : Int) / 10) = ((X / 10 : Nat) : Int) := by
    have := wrap_u64_nat (X / 10) (by omega)
    simpa using this
  have h2 : IntKind.u64.wrap (((X / 10 : Nat) : Int) * 10) = ((X / 10 * 10 : Nat) : Int) := by
    have := wrap_u64_nat (X / 10 * 10) (by omega)
    simpa using this
  have h3 : IntKind.u64.wrap ((X : Int) - ((X / 10 * 10 : Nat) : Int)) = ((X % 10 : Nat) : Int) := by
    rw [show (X : Int) - ((X / 10 * 10 : Nat) : Int) = ((X % 10 : Nat) : Int) by omega, wrap_u64_nat _ (by omega)]
  rw [h1, h2, h3]; omega
theorem div10_val {X : Nat} (hX : X < WB) : IntKind.u64.wrap ((X : Int) / 10) = ((X / 10 : Nat) : Int) := by
  have := wrap_u64_nat (X / 10) (by omega)
  simpa using this

set_option maxHeartbeats 4000000 in
set_option maxRecDepth 100000 in
theorem convert_plain (K : Nat) (HD : DivWSaid K) (b cap : Nat) (ws : List Nat) (cq : List Value) (st : Value) (bs os ls capS : Nat) (content : List Value) (w : World)
    (hQ : Arr w b 160 cq) (hcap : cq.length = cap) (hsub : Sub cq 0 ws) (hlen : ws.length ≤ K) (hlc : ws.length ≤ cap) (hcb : cap ≤ 1000000000) (hws : Ws ws) (hnr : Nrm ws)
    (hS : Arr w bs 5 content) (hos : os + ls ≤ content.length) (hls : ls ≤ 1000000) (hne : b ≠ bs) (hv : val ws < 10 ^ ls) :
    Calls Tryz.prog 122 #[.slice (some ⟨b, 0, none⟩) ws.length cap, st, .slice (some ⟨bs, os, none⟩) ls capS, .int .u64 10, .int .i64 19, .int .u64 10000000000000000000, .slice none 0 0] w fun e w' =>
      e = .returned (.tuple #[]) ∧ Arr w' bs 5 (put content os (bts (fixd ls (val ws)))) ∧ Only (fun k => k = b ∨ k = bs) w w' ∧ w'.heap.size = w.heap.size := by
  have HHD := Lib.hid HD
  have HQ := Lib.hid hQ
  have HC := Lib.hid hcap
  have HSUB := Lib.hid hsub
  have HWS := Lib.hid hws
  have HNR := Lib.hid hnr
  have HS := Lib.hid hS
  have HV := Lib.hid hv
  clear HD hQ hcap hsub hws hnr hS hv
  go_enter Tryz.func122, Tryz.ntmps122
  go_wp2_with fail
  go_loopw [0, 19] (fun q i wr => ∃ (t i0 : Nat) (ws' : List Nat) (cq' : List Value), i0 ≤ ls ∧ q = .slice (some ⟨b, 0, none⟩) ws'.length cap ∧ i = .int .i64 (i0 : Int) ∧ Hid (ls - i0 = min (19 * t) ls) ∧ Hid (Arr wr b 160 cq') ∧ Hid (cq'.length = cap) ∧ Hid (Sub cq' 0 ws') ∧
      Hid (ws'.length ≤ ws.length ∧ Ws ws' ∧ Nrm ws' ∧ val ws' = val ws / 10 ^ (19 * t)) ∧ Hid (Arr wr bs 5 (put content (os + i0) (bts (fixd (ls - i0) (val ws))))) ∧ Hid (Only (fun k => k = b ∨ k = bs) w wr ∧ wr.heap.size = w.heap.size)) (fun _ i _ => (intOf i).toNat)
  case atStart =>
    refine ⟨0, ls, ws, cq, Nat.le_refl _, rfl, rfl, Lib.hid (by omega), HQ, HC, HSUB, Lib.hid ⟨Nat.le_refl _, HWS.out, HNR.out, by simp⟩, ?_, Lib.hid ⟨Only.refl _ _, rfl⟩⟩
    rw [show ls - ls = 0 by omega, fixd, show bts [] = [] from rfl, put_nil]
    exact HS
  case round =>
    obtain ⟨t, i0, ws', cq', hi, rfl, rfl, HT, H1, H2, H3, H4, H5, H6⟩ := hrel
    by_cases he : ws' = []
    · subst he
      go_wp2_with fail
      have hz : val ws / 10 ^ (19 * t) = 0 := by have := H4.out.2.2.2; rw [val_nil] at this; exact this.symm
      have hvk : val ws < 10 ^ (ls - i0) := by
        rw [HT.out]
        by_cases c : 19 * t ≤ ls
        · rw [show min (19 * t) ls = 19 * t by omega]
          have := Nat.div_eq_zero_iff.1 hz
          rcases this with h | h
          · have : 0 < 10 ^ (19 * t) := Nat.pow_pos (by omega)
            omega
          · exact h
        · rw [show min (19 * t) ls = ls by omega]; exact HV.out
      have HVK := Lib.hid hvk
      clear hz hvk
      obtain ⟨wo, rfl⟩ : ∃ wo : World, wo = wr := ⟨_, rfl⟩
      go_loopw [19] (fun i wr2 => ∃ ii : Nat, ii ≤ i0 ∧ i = .int .i64 (ii : Int) ∧ Hid (Arr wr2 bs 5 (put content (os + ii) (bts (fixd (ls - ii) (val ws))))) ∧ Hid (wo.grownBy wr2 (some bs) ∧ wr2.heap.size = wo.heap.size)) (fun i _ => (intOf i).toNat)
      case atStart => exact ⟨i0, Nat.le_refl _, rfl, H5, Lib.hid ⟨grownBy_refl _ _, rfl⟩⟩
      case round =>
        obtain ⟨ii, hii, rfl, L1, L2⟩ := hrel
        cases ii with
        | zero =>
          go_wp2_with fail
          go_end0
          refine ⟨rfl, ?_, H6.out.1.of_grown L2.out.1 (.inr rfl), L2.out.2.trans H6.out.2⟩
          have := L1.out
          rwa [Nat.add_zero, Nat.sub_zero] at this
        | succ i =>
          have hfl : (fixd (ls - (i + 1)) (val ws)).length = ls - (i + 1) := fixd_length _ _
          have hfz := L1.out.free (os + i)
          obtain ⟨v0, hcell⟩ := L1.out.get (j := os + i) (by rw [put_length (by rw [bts_length, hfl]; omega)]; omega)
          have HFL := Lib.hid hfl
          clear hfl
          go_wp2_with fail
          go_roundw
          case rel =>
            refine ⟨i, by omega, by go_num, ?_, Lib.hid ⟨grown_trans L2.out.1 (grownBy_set _ _ _ _), (size_set _ _ _).trans L2.out.2⟩⟩
            have hset := L1.out.set (os + i) (byt 48)
            rw [show os + (i + 1) = os + i + 1 by omega, ← put_cons (by rw [bts_length, HFL.out]; omega)] at hset
            have hd0 : val ws / 10 ^ (ls - (i + 1)) = 0 := Nat.div_eq_of_lt (Nat.lt_of_lt_of_le HVK.out (Nat.pow_le_pow_right (by omega) (by omega)))
            rw [show ls - i = ls - (i + 1) + 1 by omega, fixd_front, hd0]
            exact Lib.hid hset
          case measure => simp [intOf]
    · have hp : 0 < ws'.length := List.length_pos_iff.2 he
      have hpb : decide ((0 : Int) < (ws'.length : Int)) = true := decide_eq_true (by omega)
      obtain ⟨k1, k2, k3, k4⟩ := H4.out
      have hdv := HHD.out b cap ws' cq' wr H1.out H2.out H3.out hp (by omega) (by omega) hcb k2
      have HDV := Lib.hid hdv
      have K2 := Lib.hid k2
      have K3 := Lib.hid k3
      have K4 := Lib.hid k4
      clear hdv k2 k3 k4 he
      go_wp2_with fail
      (with_reducible refine HDV.out.mono ?_)
      rintro e w1 ⟨rfl, h1, h2, h3⟩
      have h19 : 19 * t < ls := by
        by_cases c : 19 * t < ls
        · exact c
        · exfalso
          have hz : val ws / 10 ^ (19 * t) = 0 := Nat.div_eq_of_lt (Nat.lt_of_lt_of_le HV.out (Nat.pow_le_pow_right (by omega) (by omega)))
          have := val_zero_nrm K3.out (by rw [K4.out, hz])
          rw [this] at hp; simp at hp
      have h19b : ls - i0 = 19 * t := by have := HT.out; omega
      have hRV : (divL Y19 ws').2 = val ws / 10 ^ (19 * t) % Y19 := by rw [(divL_eq (by unfold Y19; omega) ws').2, K4.out]
      obtain ⟨R, hR⟩ : ∃ R, R = (divL Y19 ws').2 := ⟨_, rfl⟩
      rw [← hR] at hRV ⊢
      have HRV := Lib.hid hRV
      have H19B := Lib.hid h19b
      clear hRV h19b
      obtain ⟨Q, hQ⟩ : ∃ Q, Q = normL (divL Y19 ws').1 := ⟨_, rfl⟩
      rw [← hQ]
      have HR := Lib.hid hR
      have HQ2 := Lib.hid hQ
      have G1 := Lib.hid h1
      have G2 := Lib.hid h2
      have G3 := Lib.hid h3
      clear hR hQ h1 h2 h3
      go_wp2_with fail
      obtain ⟨wo, rfl⟩ : ∃ wo : World, wo = w1 := ⟨_, rfl⟩
      go_loopw [19, 20, 21] (fun i r j wr2 => ∃ jj ii : Nat, jj ≤ 19 ∧ ii + jj = i0 ∧ i = .int .i64 (ii : Int) ∧ r = .int .u64 ((R / 10 ^ jj : Nat) : Int) ∧ j = .int .i64 (jj : Int) ∧ Hid (Arr wr2 bs 5 (put content (os + ii) (bts (fixd (ls - ii) (val ws))))) ∧ Hid (wo.grownBy wr2 (some bs) ∧ wr2.heap.size = wo.heap.size)) (fun i _ _ _ => (intOf i).toNat)
      case atStart =>
        refine ⟨0, i0, by omega, by omega, rfl, by simp, rfl, Lib.hid (H5.out.other G2.out (by simp; exact Ne.symm hne)), Lib.hid ⟨grownBy_refl _ _, rfl⟩⟩
      case round =>
        obtain ⟨jj, ii, hj, hij, rfl, rfl, rfl, L1, L2⟩ := hrel
        by_cases hgo : jj < 19 ∧ 0 < ii
        · obtain ⟨g1, g2⟩ := hgo
          obtain ⟨i, rfl⟩ : ∃ i, ii = i + 1 := ⟨ii - 1, by omega⟩
          obtain ⟨X, hX⟩ : ∃ X, X = R / 10 ^ jj := ⟨_, rfl⟩
          rw [← hX]
          have hfl : (fixd (ls - (i + 1)) (val ws)).length = ls - (i + 1) := fixd_length _ _
          have hfz := L1.out.free (os + i)
          obtain ⟨v0, hcell⟩ := L1.out.get (j := os + i) (by rw [put_length (by rw [bts_length, hfl]; omega)]; omega)
          have HXB : Hid (X < WB) := Lib.hid (Nat.lt_of_le_of_lt (by rw [hX]; exact Nat.div_le_self _ _) (show R < WB by rw [HRV.out]; exact Nat.lt_trans (Nat.mod_lt _ (by unfold Y19; omega)) (by unfold Y19 WB; omega)))
          have HX := Lib.hid hX
          have HFL := Lib.hid hfl
          clear hX hfl
          go_wp2_with fail
          go_roundw
          case rel =>
            refine ⟨jj + 1, i, by omega, by omega, by go_num, ?_, by go_num, ?_, ?_⟩
            · rw [div10_val HXB.out, HX.out, Nat.div_div_eq_div_mul, ← Nat.pow_succ]
            · have hm : ls - (i + 1) = 19 * t + jj := by have := H19B.out; omega
              have hdig : X % 10 = val ws / 10 ^ (ls - (i + 1)) % 10 := by rw [hm, ← digit_at _ _ _ g1, ← HRV.out, ← HX.out]
              have hbv : Value.int IntKind.u8 ((48 + IntKind.u64.wrap ((X : Int) - IntKind.u64.wrap (IntKind.u64.wrap ((X : Int) / 10) * 10))) % 256) = byt (UInt8.ofNat (48 + val ws / 10 ^ (ls - (i + 1)) % 10)) := by
                rw [dig_val HXB.out, byt, dec_digit, hdig]
              rw [hbv]
              have hset := L1.out.set (os + i) (byt (UInt8.ofNat (48 + val ws / 10 ^ (ls - (i + 1)) % 10)))
              rw [show os + (i + 1) = os + i + 1 by omega, ← put_cons (by rw [bts_length, HFL.out]; omega)] at hset
              rw [show ls - i = ls - (i + 1) + 1 by omega, fixd_front]
              exact Lib.hid hset
            · exact Lib.hid ⟨grown_trans L2.out.1 (grownBy_set _ _ _ _), (size_set _ _ _).trans L2.out.2⟩
          case measure => simp [intOf]
        · by_cases h19j : jj = 19
          · subst h19j
            go_wp2_with fail
            go_roundw
            case rel =>
              refine ⟨t + 1, ii, Q, put cq' 0 (wds (divL Y19 ws').1), by omega, rfl, by go_num, Lib.hid (by have := H19B.out; omega), Lib.hid (G1.out.other L2.out.1 (by simp; exact hne)), Lib.hid (by rw [put_length (by rw [wds_length, divL_len, H2.out]; omega)]; exact H2.out), ?_, ?_, L1, Lib.hid ⟨(H6.out.1.of_grown G2.out (.inl rfl)).of_grown L2.out.1 (.inr rfl), by rw [L2.out.2, G3.out, H6.out.2]⟩⟩
              · rw [HQ2.out]
                obtain ⟨n, n1, n2, _⟩ := normL_take (divL Y19 ws').1
                rw [n2]
                exact Lib.hid ((Sub.put_in (by omega)).take n)
              · rw [HQ2.out]
                obtain ⟨n, n1, n2, _⟩ := normL_take (divL Y19 ws').1
                refine Lib.hid ⟨?_, (divL_ws (by unfold Y19; omega) K2.out).norm, nrm_normL _, ?_⟩
                · rw [n2, List.length_take, divL_len]; omega
                · rw [val_normL, (divL_eq (by unfold Y19; omega) ws').1, K4.out, Nat.div_div_eq_div_mul, show Y19 = 10 ^ 19 from rfl, ← Nat.pow_add, show 19 * t + 19 = 19 * (t + 1) by omega]
            case measure => simp [intOf]; omega
          · have hii : ii = 0 := by omega
            subst hii
            go_wp2_with fail
            go_roundw
            case rel =>
              refine ⟨t + 1, 0, Q, put cq' 0 (wds (divL Y19 ws').1), by omega, rfl, by go_num, Lib.hid (by have := H19B.out; omega), Lib.hid (G1.out.other L2.out.1 (by simp; exact hne)), Lib.hid (by rw [put_length (by rw [wds_length, divL_len, H2.out]; omega)]; exact H2.out), ?_, ?_, L1, Lib.hid ⟨(H6.out.1.of_grown G2.out (.inl rfl)).of_grown L2.out.1 (.inr rfl), by rw [L2.out.2, G3.out, H6.out.2]⟩⟩
              · rw [HQ2.out]
                obtain ⟨n, n1, n2, _⟩ := normL_take (divL Y19 ws').1
                rw [n2]
                exact Lib.hid ((Sub.put_in (by omega)).take n)
              · rw [HQ2.out]
                obtain ⟨n, n1, n2, _⟩ := normL_take (divL Y19 ws').1
                refine Lib.hid ⟨?_, (divL_ws (by unfold Y19; omega) K2.out).norm, nrm_normL _, ?_⟩
                · rw [n2, List.length_take, divL_len]; omega
                · rw [val_normL, (divL_eq (by unfold Y19; omega) ws').1, K4.out, Nat.div_div_eq_div_mul, show Y19 = 10 ^ 19 from rfl, ← Nat.pow_add, show 19 * t + 19 = 19 * (t + 1) by omega]
            case measure => have := H19B.out; simp [intOf]; omega
end Go.Proofs.Tz

/- Contracts of nat.set, getStack, the stack's free, and divisors of small numbers. -/
namespace Go.Proofs.Tz
open Go.RowKit Mv

theorem Arr.setRow {w : World} {b : Nat} {T : TypeId} {cs : List Value} (h : Arr w b T cs) (ds : List Value) : Arr (w.setRow b ds.toArray) b T ds := by
  unfold Arr at *
  simp only [World.setRow, Array.getElem?_modify, h]
  simp
theorem setRow_block (w : World) (b : Nat) (ds : Array Value) (k : Nat) (hk : k ≠ b) : (w.setRow b ds).heap[k]? = w.heap[k]? := by
  simp only [World.setRow, Array.getElem?_modify]
  rw [if_neg (by omega)]
theorem grown_setRow {w w' : World} {b : Nat} (h : w.grownBy w' (some b)) (ds : Array Value) : w.grownBy (w'.setRow b ds) (some b) :=
  ⟨h.os, h.tape, h.output, by simp [World.setRow]; exact h.size, fun k hk hne => (setRow_block _ _ _ _ (fun e => hne (by rw [e]))).trans (h.block k hk hne)⟩
theorem below_setRow {B b : Nat} {w w' : World} (h : Below B w w') (hb : B ≤ b) (ds : Array Value) : Below B w (w'.setRow b ds) :=
  ⟨h.os, h.tape, h.output, by simp [World.setRow]; exact h.size, fun k hk => (setRow_block _ _ _ _ (by omega)).trans (h.block k hk)⟩

set_option maxHeartbeats 1000000 in
theorem set_new (bx cx : Nat) (xs : List Nat) (cq : List Value) (w : World) (hA : Arr w bx 160 cq) (hs : Sub cq 0 xs) (_hl : xs.length ≤ cq.length) (h0 : 0 < xs.length) (hm : xs.length ≤ 1000000) :
    Calls Tryz.prog 121 #[.slice none 0 0, .slice (some ⟨bx, 0, none⟩) xs.length cx] w fun e w' => ∃ c', xs.length ≤ c' ∧ c' ≤ xs.length + 4 ∧ e = .returned (.slice (some ⟨w.heap.size, 0, none⟩) xs.length c') ∧ Arr w' w.heap.size 160 (put (zs c') 0 (wds xs)) ∧ Below w.heap.size w w' := by
  have HA := Lib.hid hA
  have HS := Lib.hid hs
  have hbx := hA.lt
  clear hA hs
  go_enter Tryz.func121, Tryz.ntmps121
  go_wp2_with fail
  (with_reducible refine (make_new none 0 0 xs.length h0 (by omega) w).mono ?_)
  rintro e w1 ⟨c', h1, h2, rfl, hN, hB⟩
  have hA1 := HA.out.below hB
  have hc : ∀ j v, (wds xs)[j]? = some v → w1.cell? ((⟨bx, 0, none⟩ : Addr).add j) = some v := by
    intro j v hj
    have ha : (⟨bx, 0, none⟩ : Addr).add j = ⟨bx, 0 + j, none⟩ := by unfold Addr.add; split <;> simp_all
    rw [ha]
    have : j < xs.length := by
      have := (List.getElem?_eq_some_iff.1 hj).1
      rwa [wds_length] at this
    rw [wds_get (List.getElem?_eq_getElem this)] at hj
    injection hj with hj
    rw [← hj]
    exact hA1.cell (HS.out j _ (List.getElem?_eq_getElem this))
  have hcopy : ∀ ty : TypeId, (Builtin.copy_ #[118, 118] ty #[.slice (some ⟨w.heap.size, 0, none⟩) xs.length c', .slice (some ⟨bx, 0, none⟩) xs.length cx]).run Tryz.prog w1 = .ok (goInt xs.length) (w1.setRow w.heap.size (put (zs c') 0 (wds xs)).toArray) := by
    intro ty
    have := run_copy_row (P := Tryz.prog) w1 118 118 ty 160 w.heap.size 0 xs.length c' ⟨bx, 0, none⟩ xs.length cx (zs c').toArray 160 (wds xs) Tryz.underlying118 (by kernel_rfl) hN (by rw [wds_length]; simp) hc (by rw [wds_length]; simp [zs_length]; omega) (by intro v hv; simp only [wds, List.mem_map] at hv; obtain ⟨x, _, rfl⟩ := hv; rfl)
    refine this.trans ?_
    have e : ((wds xs).length : Int) = xs.length := by rw [wds_length]
    show Result.ok (goInt ((wds xs).length : Int)) (w1.setRow w.heap.size (put (zs c') 0 (wds xs)).toArray) = _
    rw [e]
  have HN := Lib.hid hN
  have HB := Lib.hid hB
  clear hN hB hA1 hc
  go_wp2_with fail
  go_ret
  exact ⟨c', h1, h2, rfl, HN.out.setRow _, below_setRow HB.out (Nat.le_refl _) _⟩

set_option maxHeartbeats 1000000 in
theorem getStack_any (w : World) : Calls Tryz.prog 117 #[] w fun e w' => e = .returned (.pointer (some ⟨w.heap.size, 0, none⟩)) ∧ Arr w' w.heap.size 194 [.pointer none] ∧ Below w.heap.size w w' ∧ w'.heap.size = w.heap.size + 1 := by
  go_enter Tryz.func117, Tryz.ntmps117
  go_wp2
  go_ret
  exact ⟨rfl, Arr.new _ _ [.pointer none], (Below.refl _ _).alloc (Nat.le_refl _) _, by simp⟩

set_option maxHeartbeats 1000000 in
/-- The stack's free, as a deferred call, where nothing was taken. -/
theorem free_none (b : Nat) (u : FrameMode) (w : World) (hA : Arr w b 194 [.pointer none]) : CallsD Tryz.prog 118 #[.pointer (some ⟨b, 0, none⟩)] u w fun e u' w' => u' = u ∧ (e = .returned (.tuple #[]) ∧ w = w') := by
  have c0 : w.cell? ⟨b, 0, none⟩ = some (.pointer none) := hA.cell rfl
  clear hA
  go_enter_d Tryz.func118, Tryz.ntmps118
  go_wp2
  go_end0
  exact ⟨rfl, rfl⟩

set_option maxHeartbeats 1000000 in
/-- Of a number of at most eight words there is no table. -/
theorem divisors_none (st : Value) (n : Nat) (hn : n ≤ 8) (w : World) (hL : w.cell? ⟨8, 0, none⟩ = some (.int .i64 8)) :
    Calls Tryz.prog 120 #[st, .int .i64 n, .int .u64 10, .int .i64 19, .int .u64 10000000000000000000] w fun e w' => e = .returned (.slice none 0 0) ∧ ∃ q, w' = w.drewN q := by
  go_enter Tryz.func120, Tryz.ntmps120
  go_wp2
  go_ret
  exact ⟨rfl, 0, rfl⟩
end Go.Proofs.Tz

/- Contract of nat.itoa: a number's decimal text. -/
namespace Go.Proofs.Tz
open Go.RowKit Mv

def zb (n : Nat) : List Value := List.replicate n (.int .u8 0)
theorem zb_length (n : Nat) : (zb n).length = n := List.length_replicate
theorem made_zb (k : Nat) : madeCells #[.int .u8 0] k = (zb k).toArray := by
  apply Array.ext_getElem?
  intro i
  simp only [madeCells, zb]
  by_cases h : i < k
  · simp [h, Nat.mod_one]
  · rw [Array.getElem?_eq_none (by simp; omega), Array.getElem?_eq_none (by simp; omega)]

theorem run_mkb (n : Nat) (hc : n ≤ 1000000000) (w : World) : (Instr.makeSlice 32 (.int .i64 (n : Int)) (.int .i64 (n : Int))).run Tryz.prog w = .ok (.slice (some ⟨w.heap.size, 0, none⟩) n n) (w.alloc (.cells (zb n).toArray 5)) := by
  have hinfo : (Tryz.prog.info? 5).map (fun i => (i.zero, i.size, i.bytes)) = some (some (.int .u8 0), 1, 1) := by kernel_rfl
  obtain ⟨i, hi, hzz⟩ := Option.map_eq_some_iff.1 hinfo
  simp only [Prod.mk.injEq] at hzz
  obtain ⟨hz, hs, hb⟩ := hzz
  have hr := run_make (P := Tryz.prog) w 32 5 i (.int .u8 0) Tryz.underlying32 hi hz .i64 .i64 n n (by omega) (by omega) (by rw [hb]; omega) (by omega)
  simp only [Int.toNat_natCast, hs, Nat.mul_one] at hr
  rw [hr, ← made_zb]
  rfl

theorem cellNew (w : World) (C : Array Value) (T : TypeId) (r : Nat × Nat) (v : Value) (h : C[0]? = some v) : (w.alloc (.cells C T r)).cell? ⟨w.heap.size, 0, none⟩ = some v := by
  have hb := heap_alloc_new w (.cells C T r)
  simp only [World.cell?, hb, h]
  rfl
theorem size_alloc (w : World) (o : Obj) : (w.alloc o).heap.size = w.heap.size + 1 := by simp

set_option maxHeartbeats 1000000 in
set_option maxRecDepth 100000 in
theorem itoa_zero (l c : Nat) (a : Option Addr) (hl : l = 0) (w : World) :
    Calls Tryz.prog 102 #[.slice a l c, .bool false, .int .i64 10] w fun e w' => e = .returned (.slice (some ⟨w.heap.size, 0, none⟩) 1 1) ∧ w'.cell? ⟨w.heap.size, 0, none⟩ = some (byt 48) ∧ Below w.heap.size w w' := by
  subst hl
  have kc := fun (w : World) (C : Array Value) (n c : Nat) => Lib.run_convert_bytes_const (P := Tryz.prog) w 32 5 C n c Tryz.underlying32 Tryz.underlying5
  go_enter_defers Tryz.func102, Tryz.ntmps102
  go_wp2_with fail
  exact ⟨_, results_tmp rfl _ _ _, rfl, cellNew w _ _ _ _ rfl, (Below.refl _ _).alloc (Nat.le_refl _) _⟩

theorem drop_of_dropWhile : ∀ (l : Bs), ∃ i, i ≤ l.length ∧ l.dropWhile (· = 48) = l.drop i ∧ (∀ j, j < i → l[j]? = some 48) ∧ l[i]? ≠ some 48
  | [] => ⟨0, Nat.le_refl _, rfl, fun j hj => absurd hj (by omega), by simp⟩
  | c :: r => by
    by_cases h : c = 48
    · obtain ⟨i, h1, h2, h3, h4⟩ := drop_of_dropWhile r
      refine ⟨i + 1, by simp; omega, by simp [List.dropWhile, h, h2], ?_, by simpa using h4⟩
      intro j hj
      cases j with
      | zero => simp [h]
      | succ j => simpa using h3 j (by omega)
    · exact ⟨0, by simp, by simp [List.dropWhile, h], fun j hj => absurd hj (by omega), by simp [h]⟩

set_option maxHeartbeats 4000000 in
set_option maxRecDepth 100000 in
theorem itoa_any (K : Nat) (HD : DivWSaid K) (b cap n0 : Nat) (ws : List Nat) (cs : List Value) (w : World)
    (hA : Arr w b 160 cs) (hs : Sub cs 0 ws) (hl : ws.length ≤ cs.length) (hn0 : ws.length = n0 + 1) (hk : ws.length ≤ K) (h8 : ws.length ≤ 8) (hc : ws.length ≤ cap) (hws : Ws ws) (hnr : Nrm ws)
    (hL : w.cell? ⟨8, 0, none⟩ = some (.int .i64 8)) (h8b : 8 < w.heap.size) :
    Calls Tryz.prog 102 #[.slice (some ⟨b, 0, none⟩) ws.length cap, .bool false, .int .i64 10] w fun e w' =>
      ∃ bs off c, e = .returned (.slice (some ⟨bs, off, none⟩) (dec (val ws)).length c) ∧ w.heap.size ≤ bs ∧ (∀ i x, (dec (val ws))[i]? = some x → w'.cell? ⟨bs, off + i, none⟩ = some (byt x)) ∧ Below w.heap.size w w' := by
  obtain ⟨t, ht⟩ : ∃ t, ws[n0]? = some t := ⟨_, List.getElem?_eq_getElem (by omega)⟩
  have ht0 : t ≠ 0 := by
    have hsp : ws = ws.take n0 ++ [t] := by
      have := List.take_append_getElem (l := ws) (i := n0) (by omega)
      rw [List.getElem?_eq_getElem (by omega)] at ht
      injection ht with ht
      rw [ht, List.take_of_length_le (by omega : ws.length ≤ n0 + 1)] at this
      exact this.symm
    rw [hsp] at hnr
    exact hnr.top
  have htw : t < WB := hws t (List.mem_of_getElem? ht)
  have hct : w.cell? ⟨b, 0 + n0, none⟩ = some (.int .u64 (t : Int)) := hA.cell (hs n0 t ht)
  have hbl := fun w hc => bitLen_any b 0 n0 cap t w ht0 htw hc (by omega) (by omega)
  obtain ⟨L, hLL⟩ : ∃ L, L = 64 * n0 + Lib.bitLen t := ⟨_, rfl⟩
  rw [← hLL, ← hn0] at hbl
  have hz0 : ((ws.length : Int) == 0) = false := by simp; intro e; rw [e] at hn0; simp at hn0
  obtain ⟨g1, g2, g3, g4⟩ := blen_bounds ht0 htw
  have hL42 : L < 4200 := by omega
  have hval : val ws < 2 ^ L := by
    have hsp : ws = ws.take n0 ++ [t] := by
      have := List.take_append_getElem (l := ws) (i := n0) (by omega)
      rw [List.getElem?_eq_getElem (by omega)] at ht
      injection ht with ht
      rw [ht, List.take_of_length_le (by omega : ws.length ≤ n0 + 1)] at this
      exact this.symm
    have hlow := val_lt (xs := ws.take n0) (fun x hx => hws x (List.mem_of_mem_take hx))
    have hlen : (ws.take n0).length = n0 := by rw [List.length_take]; omega
    rw [hlen] at hlow
    have hv : val ws = val (ws.take n0) + WB ^ n0 * t := by
      conv => lhs; rw [hsp]
      rw [val_append, hlen, val_cons, val_nil]; simp
    have hW : WB ^ n0 = 2 ^ (64 * n0) := by rw [Nat.pow_mul]; rfl
    rw [hv, hLL, Nat.pow_add, ← hW]
    calc val (ws.take n0) + WB ^ n0 * t < WB ^ n0 + WB ^ n0 * t := by omega
      _ = WB ^ n0 * (t + 1) := by rw [Nat.mul_add, Nat.mul_one, Nat.add_comm]
      _ ≤ WB ^ n0 * 2 ^ Lib.bitLen t := Nat.mul_le_mul_left _ (by omega)
  obtain ⟨k1, k2, k3, k4, k5⟩ := okL_props hL42
  obtain ⟨m, hm⟩ : ∃ m : Nat, il L = (m : Int) := ⟨(il L).toNat, by omega⟩
  have hcv : ∀ w : World, (convert 3 158 (.int .i64 (L : Int))).run Tryz.prog w = .ok (.float .f64 (floatOfInt .f64 (L : Int))) w := fun w => run_convert_int_float w 3 158 .i64 .f64 (L : Int) (by rw [Tryz.underlying3]; rfl) Tryz.underlying158
  have hcv10 : ∀ w : World, (convert 3 158 (.int .i64 10)).run Tryz.prog w = .ok (.float .f64 4621819117588971520) w := fun w => by
    refine (run_convert_int_float w 3 158 .i64 .f64 10 (by rw [Tryz.underlying3]; rfl) Tryz.underlying158).trans ?_
    kernel_rfl
  have hq := fun w => quo_run hL42 w
  have hi := fun w => int_run hL42 w
  rw [hm] at hi k4 k5
  have hd10 : val ws < 10 ^ (m + 1) := Nat.lt_of_lt_of_le hval (by rwa [show ((m : Int) + 1).toNat = m + 1 by omega] at k5)
  have hm2 : m ≤ 2000 := by omega
  have hvp : val ws ≠ 0 := by
    intro h0
    have := val_zero_nrm hnr h0
    rw [this] at hn0; simp at hn0
  obtain ⟨i1, hi1, hi2, hi3, hi4⟩ := drop_of_dropWhile (fixd (m + 1) (val ws))
  rw [drop_fixd hd10 hvp] at hi2
  rw [fixd_length] at hi1
  have hi5 : i1 < m + 1 := by
    have : dec (val ws) ≠ [] := dec_ne_nil _
    rw [hi2] at this
    rcases Nat.lt_or_ge i1 (m + 1) with h | h
    · exact h
    · exact absurd (List.drop_eq_nil_of_le (by rw [fixd_length]; omega)) this
  generalize hF : floatOfInt .f64 (L : Int) = fL at *
  generalize hG : qf L = qL at *
  have hmk := fun w => run_mkb (m + 1) (by omega) w
  rw [show ((m + 1 : Nat) : Int) = (m : Int) + 1 by omega] at hmk
  have hand : bits BinOp.and IntKind.u64 10 (IntKind.u64.wrap (-10)) = 2 := by decide
  have HD' := Lib.hid HD
  have HA := Lib.hid hA
  have HS := Lib.hid hs
  have HW := Lib.hid hws
  have HN := Lib.hid hnr
  have HBL := Lib.hid hbl
  have HV := Lib.hid (And.intro hd10 hvp)
  have HI := Lib.hid (And.intro hi2 (And.intro hi3 hi4))
  have HL := Lib.hid hL
  have HCT := Lib.hid hct
  have HZ := Lib.hid (zb_length (m + 1))
  have HN0 := Lib.hid hn0
  clear hn0 HD hA hs hws hnr hbl hd10 hvp hi2 hi3 hi4 hL hct ht ht0 htw g1 g2 g3 g4 hLL hL42 hval k1 k2 k3 k4 k5 hm hF hG
  go_enter_defers Tryz.func102, Tryz.ntmps102
  go_wp2_with fail
  (with_reducible refine (HBL.out _ HCT.out).mono ?_)
  rintro e w1 ⟨rfl, rfl⟩
  go_wp2_with fail
  (with_reducible refine (log2_ten _).mono ?_)
  rintro e w1 ⟨rfl, rfl⟩
  go_wp2_with fail
  (with_reducible refine (getStack_any _).mono ?_)
  rintro e w2 ⟨he, hST, hB2, hz2⟩
  rw [size_alloc] at he hST hB2 hz2
  have hSt := (Arr.new w 5 (zb (m + 1))).below (by rw [size_alloc]; exact hB2)
  have hB0 : Below w.heap.size w w2 := ((Below.refl w.heap.size w).alloc (Nat.le_refl _) (.cells (zb (m + 1)).toArray 5)).trans (hB2.mono (by omega))
  have hA2 := HA.out.below hB0
  have hL2 : w2.cell? ⟨8, 0, none⟩ = some (.int .i64 8) := (hB0.cell h8b).trans HL.out
  have HST := Lib.hid hST
  have HSTR := Lib.hid hSt
  have HA2 := Lib.hid hA2
  have HB0 := Lib.hid hB0
  have HZ2 := Lib.hid hz2
  have HL2 := Lib.hid hL2
  subst he
  clear hST hSt hA2 hB0 hB2 hz2 hL2
  go_wp2_with fail
  (with_reducible refine (maxPow_ten _).mono ?_)
  rintro e w3 ⟨rfl, rfl⟩
  go_wp2_with fail
  (with_reducible refine (divisors_none _ _ h8 _ HL2.out).mono ?_)
  rintro e w3 ⟨rfl, q, hw3⟩
  have hB3 : Below w.heap.size w w3 := by rw [hw3]; exact HB0.out.trans ⟨rfl, rfl, rfl, Nat.le_refl _, fun _ _ => rfl⟩
  have hA3 : Arr w3 b 160 cs := by rw [hw3]; exact HA2.out.drewN q
  have hS3 : Arr w3 w.heap.size 5 (zb (m + 1)) := by rw [hw3]; exact HSTR.out.drewN q
  have hT3 : Arr w3 (w.heap.size + 1) 194 [.pointer none] := by rw [hw3]; exact HST.out.drewN q
  have hz3 : w3.heap.size = w.heap.size + 2 := by rw [hw3]; exact HZ2.out
  have HB3 := Lib.hid hB3
  have HA3 := Lib.hid hA3
  have HS3 := Lib.hid hS3
  have HT3 := Lib.hid hT3
  have HZ3 := Lib.hid hz3
  clear hB3 hA3 hS3 hT3 hz3 hw3
  go_wp2_with fail
  (with_reducible refine (set_new b cap ws cs w3 HA3.out HS.out hl (by have := HN0.out; omega) (by omega)).mono ?_)
  rintro e w4 ⟨c', h1, h2, rfl, hN4, hB4⟩
  have hS4 := HS3.out.below hB4
  have hT4 := HT3.out.below hB4
  have hw0 : b < w.heap.size := HA.out.lt
  have hz3 := HZ3.out
  have hz4 := hB4.size
  have hB04 : Below w.heap.size w w4 := HB3.out.trans (hB4.mono (by omega))
  have hcl : (put (zs c') 0 (wds ws)).length = c' := by rw [put_length (by rw [wds_length, zs_length]; omega), zs_length]
  have hcp := convert_plain K HD'.out w3.heap.size c' ws (put (zs c') 0 (wds ws)) (.pointer (some ⟨w.heap.size + 1, 0, none⟩)) w.heap.size 0 (m + 1) (m + 1) (zb (m + 1)) w4 hN4 hcl (Sub.put_in (by omega)) hk h1 (by omega) HW.out HN.out hS4 (by rw [zb_length]; omega) (by omega) (by omega) HV.out.1
  have HCP := Lib.hid hcp
  have HT4 := Lib.hid hT4
  have HB04 := Lib.hid hB04
  have HR := Lib.hid (And.intro hz3 hz4)
  clear hcp hS4 hT4 hB04 hcl hz3 hz4 hN4 hB4 hw0
  go_wp2_with fail
  (with_reducible refine (HCP.out).mono ?_)
  rintro e w5 ⟨rfl, hS5, ho, hsz5⟩
  have hput : put (zb (m + 1)) 0 (bts (fixd (m + 1) (val ws))) = bts (fixd (m + 1) (val ws)) := put_zero_all (by rw [bts_length, fixd_length, zb_length])
  rw [hput] at hS5
  have hB5 : Below w.heap.size w w5 := HB04.out.trans (ho.toBelow (fun k hk => by have := HR.out; omega) (by have := HR.out; omega))
  have hT5 : Arr w5 (w.heap.size + 1) 194 [.pointer none] := HT4.out.only ho (by have := HR.out; omega)
  have HS5 := Lib.hid hS5
  have HB5 := Lib.hid hB5
  have HT5 := Lib.hid hT5
  clear hput hS5 ho hsz5 hB5 hT5
  go_wp2_with fail
  go_loopw [7] (fun i wr => ∃ ii : Nat, ii ≤ i1 ∧ i = .int .i64 (ii : Int) ∧ wr = w5) (fun i _ => (m + 1) - (intOf i).toNat)
  case atStart => exact ⟨0, Nat.zero_le _, rfl, rfl⟩
  case round =>
    obtain ⟨ii, hii, rfl, rfl⟩ := hrel
    have hcell : ∃ x, (fixd (m + 1) (val ws))[ii]? = some x := ⟨_, List.getElem?_eq_getElem (by rw [fixd_length]; omega)⟩
    obtain ⟨x, hx⟩ := hcell
    have hc5 : wr.cell? ⟨w.heap.size, ii, none⟩ = some (.int .u8 (x.toNat : Int)) := HS5.out.cell (bts_get hx)
    by_cases he : ii = i1
    · have hx48 : ((x.toNat : Int) == 48) = false := by
        have := HI.out.2.2
        rw [← he, hx] at this
        simp only [beq_eq_false_iff_ne]
        intro h48
        exact this (by rw [show x = 48 from UInt8.toNat_inj.1 (by show x.toNat = 48; omega)])
      have hle : ii ≤ m + 1 := by omega
      have HE := Lib.hid he
      clear hx he
      go_wp2_with fail
      refine leaves_cons (f := 118) (args := #[.pointer (some ⟨w.heap.size + 1, 0, none⟩)]) (by simp) (by simp [go_sem]) ?_
      refine (free_none (w.heap.size + 1) .returning _ HT5.out).mono ?_
      rintro e u' w'' ⟨rfl, rfl, rfl⟩
      have hlen : (dec (val ws)).length = m + 1 - ii := by rw [HI.out.1, List.length_drop, fixd_length, HE.out]
      refine ⟨_, results_tmp rfl _ _ _, w.heap.size, ii, m + 1 - ii, by rw [hlen]; rfl, Nat.le_refl _, ?_, HB5.out⟩
      intro i x hx
      rw [HI.out.1, List.getElem?_drop, ← HE.out] at hx
      exact HS5.out.cell (bts_get hx)
    · have hx48 : ((x.toNat : Int) == 48) = true := by
        have := HI.out.2.1 ii (by omega)
        rw [hx] at this
        injection this with this
        rw [this]; rfl
      have HE := Lib.hid he
      clear hx he
      go_wp2_with fail
      go_roundw
      case rel => exact ⟨ii + 1, by have := HE.out; omega, by simp⟩
      case measure => simp [intOf]; omega
end Go.Proofs.Tz

/- Contracts of Int.Text and Int.String. -/
namespace Go.Proofs.Tz
open Go.RowKit Mv

def str (l : Bs) : ByteArray := ⟨l.toArray⟩
theorem str_list (l : Bs) : (str l).data.toList = l := by simp [str]
theorem str_size (l : Bs) : (str l).size = l.length := by simp [str, ByteArray.size]
theorem str_of (s : ByteArray) : str s.data.toList = s := by simp [str]

/-- The digits as a string. -/
theorem conv_str (l : Bs) (b off cap : Nat) (w : World) (h : ∀ i x, l[i]? = some x → w.cell? ⟨b, off + i, none⟩ = some (byt x)) :
    (convert 32 9 (.slice (some ⟨b, off, none⟩) l.length cap)).run Tryz.prog w = .ok (.string (str l)) w := by
  have := run_convert_bytes_arg (P := Tryz.prog) w 32 5 Tryz.underlying32 Tryz.underlying5 b off l.length cap (l.map (fun c => (c.toNat : Int))) (by simp) (fun i hi => by
    have := h i _ (List.getElem?_eq_getElem hi)
    rw [this]
    simp [byt, List.getD, hi]) 9 Tryz.underlying9
  have e : strOfNums (l.map (fun c => (c.toNat : Int))) = str l := by
    have h2 : (strOfNums (l.map (fun c => (c.toNat : Int)))).data.toList = l := by
      rw [strOfNums_data, List.map_map]
      conv => rhs; rw [← List.map_id l]
      apply List.map_congr_left
      intro c _
      exact UInt8.ofNat_toNat
    have h3 : strOfNums (l.map (fun c => (c.toNat : Int))) = str (strOfNums (l.map (fun c => (c.toNat : Int)))).data.toList := (str_of _).symm
    rw [h3, h2]
  rw [e] at this
  exact this

/-- What is taken of the package-level variables, at numbers of few words. -/
structure EnvL (w : World) : Prop where
  env : Env w
  leaf : w.cell? ⟨8, 0, none⟩ = some (.int .i64 8)
  sq : w.cell? ⟨13, 0, none⟩ = some (.int .i64 12)
  ks : w.cell? ⟨14, 0, none⟩ = some (.int .i64 80)
  dr : w.cell? ⟨15, 0, none⟩ = some (.int .i64 40)
theorem EnvL.below {w w' : World} (h : EnvL w) (hb : Below w.heap.size w w') : EnvL w' := ⟨h.env.below hb, cell_keep hb h.leaf, cell_keep hb h.sq, cell_keep hb h.ks, cell_keep hb h.dr⟩

/-- What itoa does, at numbers of at most K words. -/
def ItoaSaid (K : Nat) : Prop := ∀ (v : Value) (ws : List Nat) (base : Nat) (w : World), NatAt w base v ws → ws.length ≤ K → Ws ws → Nrm ws → EnvL w →
    Calls Tryz.prog 102 #[v, .bool false, .int .i64 10] w fun e w' =>
      ∃ bs off c, e = .returned (.slice (some ⟨bs, off, none⟩) (dec (val ws)).length c) ∧ (∀ i x, (dec (val ws))[i]? = some x → w'.cell? ⟨bs, off + i, none⟩ = some (byt x)) ∧ Below w.heap.size w w'

theorem itoa_said {K : Nat} (h8 : K ≤ 8) (HD : DivWSaid K) : ItoaSaid K := by
  intro v ws base w hN hk hws hnr hE
  by_cases h0 : ws = []
  · subst h0
    have hv : ∃ a c, v = .slice a 0 c := by
      rcases hN with ⟨h, _⟩ | ⟨b, cap, cs, h, _⟩
      · exact ⟨none, 0, h⟩
      · exact ⟨_, cap, h⟩
    obtain ⟨a, c, rfl⟩ := hv
    refine (itoa_zero 0 c a rfl w).mono ?_
    rintro e w' ⟨rfl, h1, h2⟩
    have hd : dec (val []) = [48] := by rw [val_nil]; exact dec_head.2 rfl
    rw [hd]
    refine ⟨w.heap.size, 0, 1, rfl, ?_, h2⟩
    intro i x hx
    cases i with
    | zero => simp at hx; subst hx; exact h1
    | succ i => simp at hx
  · rcases hN with ⟨_, h⟩ | ⟨b, cap, cs, rfl, hb, hA, hcl, hl, hS⟩
    · exact absurd h h0
    · obtain ⟨n0, hn0⟩ : ∃ n0, ws.length = n0 + 1 := ⟨ws.length - 1, by have := List.length_pos_iff.2 h0; omega⟩
      refine (itoa_any K HD b cap n0 ws cs w hA hS (by omega) hn0 hk (by omega) hl hws hnr hE.leaf (by have := hE.env.size; omega)).mono ?_
      rintro e w' ⟨bs, off, c, h1, _, h2, h3⟩
      exact ⟨bs, off, c, h1, h2, h3⟩

set_option maxHeartbeats 2000000 in
set_option maxRecDepth 100000 in
theorem text_any {K : Nat} (HI : ItoaSaid K) (b : Nat) (ws : List Nat) (base : Nat) (w : World) (hI : IntAt w base b ws) (hk : ws.length ≤ K) (hws : Ws ws) (hnr : Nrm ws) (hE : EnvL w) :
    Calls Tryz.prog 87 #[.pointer (some ⟨b, 0, none⟩), .int .i64 10] w fun e w' => e = .returned (.string (str (dec (val ws)))) ∧ Below w.heap.size w w' := by
  obtain ⟨v, hA, hN, hb⟩ := hI
  have c0 : w.cell? ⟨b, 0, none⟩ = some (.bool false) := hA.cell rfl
  have c1 : w.cell? ⟨b, 0 + 1, none⟩ = some v := hA.cell rfl
  have c1' : w.cell? ⟨b, 1, none⟩ = some v := c1
  have hit := fun w' (hb : Below w.heap.size w w') => HI v ws base w' (hN.below hb) hk hws hnr (hE.below hb)
  have HIT := Lib.hid hit
  have hBq : ∀ n, Below w.heap.size w (w.drewN n) := fun n => ⟨rfl, rfl, rfl, Nat.le_refl _, fun _ _ => rfl⟩
  have HBQ := Lib.hid hBq
  clear hit hA hN hE HI hws hnr hBq
  go_enter Tryz.func87, Tryz.ntmps87
  go_wp2_with fail
  go_still_tail 9, (by kernel_rfl)
  change wpList _ _ _ _ _ w.drew
  have hB2 : Below w.heap.size w w.drew := ⟨rfl, rfl, rfl, Nat.le_refl _, fun _ _ => rfl⟩
  go_wp2_with fail
  (with_reducible refine (HIT.out w.drew hB2).mono ?_)
  rintro e w3 ⟨bs, off, c, rfl, h1, h2⟩
  have hcv := conv_str _ bs off c w3 h1
  have HB3 := Lib.hid (hB2.trans (h2.mono hB2.size))
  clear h1 h2 hB2
  go_wp2_with fail
  go_ret
  exact ⟨rfl, HB3.out⟩

set_option maxHeartbeats 2000000 in
theorem string_any {K : Nat} (HI : ItoaSaid K) (b : Nat) (ws : List Nat) (base : Nat) (w : World) (hI : IntAt w base b ws) (hk : ws.length ≤ K) (hws : Ws ws) (hnr : Nrm ws) (hE : EnvL w) :
    Calls Tryz.prog 71 #[.pointer (some ⟨b, 0, none⟩)] w fun e w' => e = .returned (.string (str (dec (val ws)))) ∧ Below w.heap.size w w' := by
  have H := Lib.hid (text_any HI b ws base w hI hk hws hnr hE)
  clear HI hI hk hws hnr hE
  go_enter Tryz.func71, Tryz.ntmps71
  go_wp2_with fail
  (with_reducible refine (H.out).mono ?_)
  rintro e w3 ⟨rfl, h1⟩
  go_wp2_with fail
  go_ret
  exact ⟨rfl, h1⟩
end Go.Proofs.Tz
