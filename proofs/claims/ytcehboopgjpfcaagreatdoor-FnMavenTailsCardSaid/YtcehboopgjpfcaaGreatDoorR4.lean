/- Where the keywords lie, out of a row's list; no law. -/
import Derived.Test.YtcehboopgjpfcaaGreatDoorRA
import Derived.SliceStrings
namespace Go.Proofs.Tz
open Go.RowKit Mv Go.Proofs.YtcehboopgjpfcaaGreatDoor Go.ChangeShapes Go.WideShapes

theorem kwAt_of {l : List (String × DataW Unit)} {w : World} (h : laidMet Tryz.prog l w) (m : ("pub-primogeniture/pub/scalibr/semantic.keywordOrder", Rows.laid_pub_primogeniture_pub_scalibr_semantic_keywordOrder) ∈ l) : KwAt w := by
  obtain ⟨ps, hv, _, hrows⟩ := h
  obtain ⟨g, t, cs, fuel, p, h1, h2, h3, h4, h5⟩ := laidVars_row hv _ _ m
  obtain rfl := Option.some.inj ((show Tryz.prog.globalNamed "pub-primogeniture/pub/scalibr/semantic.keywordOrder" = some 1 by kernel_rfl).symm.trans h1)
  obtain rfl := Option.some.inj ((show (Tryz.prog.globals[1]?).map (·.type) = some 22 by kernel_rfl).symm.trans h2)
  obtain ⟨c⟩ := cs
  rcases open_strings Tryz.underlying22 Tryz.underlying9 cells9 h4 with ⟨hc, hx⟩ | ⟨a, len, cap, ss, hc, _, hl, hm, hz, hx, hcell, hws⟩
  · simp [Rows.laid_pub_primogeniture_pub_scalibr_semantic_keywordOrder] at hx
  · have hc : c = [.slice (some a) len cap] := hc
    subst hc
    have c0 : w.cell? ⟨1, 0, none⟩ = some (.slice (some a) len cap) := by simpa using World.var?_cell h1 h3 0
    have e1 := congrArg Prod.fst hx
    simp only [Rows.laid_pub_primogeniture_pub_scalibr_semantic_keywordOrder, DataW.slice.injEq] at e1
    have e2 : (ss.take len).map (fun s => s.data.toList) = kwl := by
      have h6 := e1.1
      have h7 := congrArg (List.map fun d : DataW Unit => match d with | .lit (.string s) => s | _ => []) h6
      simp only [strs, List.map_map] at h7
      exact h7.symm
    have hlen : len = 7 := by
      have h6 := congrArg List.length e2
      rw [List.length_map, List.length_take] at h6
      have h7 : kwl.length = 7 := rfl
      simp only [if_true] at hz
      omega
    subst hlen
    obtain ⟨b, off, spot⟩ := a
    simp only [if_true] at hz
    have hspot : spot = none := by simpa [Addr.add] using World.cell?_spot (hcell 0 (by omega))
    subst hspot
    refine ⟨b, off, cap, c0, fun i x hx => ?_⟩
    have hi : i < 7 := (List.getElem?_eq_some_iff.1 hx).1
    have h6 := hcell i (by omega)
    rw [add_plain] at h6
    rw [h6]
    rw [← e2, List.getElem?_map, List.getElem?_take, if_pos hi, List.getElem?_eq_getElem (by omega)] at hx
    injection hx with hx
    rw [List.getD_eq_getElem?_getD, List.getElem?_eq_getElem (by omega)]
    simp only [Option.getD_some]
    rw [← hx, str_of]
end Go.Proofs.Tz
