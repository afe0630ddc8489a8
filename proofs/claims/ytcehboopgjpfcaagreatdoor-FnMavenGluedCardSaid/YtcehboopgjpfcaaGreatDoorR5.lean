/- What a slice of texts reads as; no law. -/
import Derived.Test.YtcehboopgjpfcaaGreatDoorRA
import Derived.Test.YtcehboopgjpfcaaGreatDoorL8
namespace Go.Proofs.Tz
open Go.RowKit Go.ChangeShapes Go.WideShapes Mv

section
variable {H : Type} {enc : TypeId × Value → H} {P : Program} {W : World}

theorem rowS_of {t e : TypeId} (ht : P.underlying t = some (.slice e)) (he : P.underlying e = some .string) (hc : P.cellsOf e = 1) {a0 : Option Addr} {l0 c0 : Nat} {d : DataW H} {p : List MemPlace}
    (h : DataW.Trod enc P W 0 (fun _ => true) true t (.slice a0 l0 c0) d p) : ∃ L : List Bs, L.length = l0 ∧ RowS W a0 L := by
  obtain ⟨_, h⟩ := slice_cells ht hc h
  refine list_of ([] : Bs) l0 _ fun i hi => ?_
  obtain ⟨b, o, c, n, y, h1, h2, h3⟩ := h i hi
  obtain ⟨s, hb, _⟩ := DataW.trod_string he h3
  simp only [List.cons.injEq, and_true] at hb
  subst hb
  exact ⟨s.data.toList, b, o, h1, by rw [str_of]; exact h2⟩
end
end Go.Proofs.Tz
