/- An argument that is a list of values. -/
import Derived.Test.YtmbleojlnaofjaaDoorOpen
import Derived.Test.YtmbleojlnaofjaaDoorRK
namespace Go.Proofs.YtmbleojlnaofjaaDoor
open Go Go.RowKit D Go.ChangeShapes Go.WideShapes
set_option linter.unusedVariables false
set_option linter.unusedSimpArgs false


section
variable {Hd : Type} {enc : TypeId × Value → Hd} {w : World} {sp : Nat → Bool} {held : Bool}
theorem open_list {v : Value} {d : DataW Hd} {ps : List MemPlace} (h : DataW.Trod enc Tryd.prog w 0 sp held 23 v d ps) (hv : ∃ a len cap, v = .slice a len cap) (hw : ∀ n ∈ d.weights Tryd.prog 23, n ≤ reachBytes) :
    ∃ (a : Option Addr) (list : List V) (c : Nat), v = .slice a list.length c ∧ list.length ≤ 140737488351232 ∧ RVL w w.heap.size a list := by
  obtain ⟨fuel, hf⟩ := h
  cases fuel with
  | zero => simp [DataW.trod] at hf
  | succ n =>
    have hcz : Tryd.prog.cellsOf 26 = 6 := by kernel_rfl
    obtain ⟨a, len, cap, e, hl, hq⟩ := open_part Tryd.underlying23 hcz (by omega) (by decide +kernel) hf hw
    obtain ⟨a0, n0, c0, rfl⟩ := hv
    simp only [Value.cells, List.cons.injEq, and_true, Value.slice.injEq] at e
    obtain ⟨rfl, rfl, rfl⟩ := e
    obtain ⟨list, hlen, hx⟩ := exists_list (fun i (v : V) => ∃ b o cl, a0 = some ⟨b, o, none⟩ ∧ b < w.heap.size ∧ CellsAt w b (o + i * 6) cl ∧ cl.size = 6 ∧ RV w w.heap.size v cl) n0 (fun i hi => by
      obtain ⟨b, o, cl, d, h1, h2, h3, h4, h5, h6⟩ := hq i hi
      obtain ⟨v, hv⟩ := rv_of_trod n cl.toList d h5 h6
      exact ⟨v, b, o, cl, h1, h2, h3, h4, by simpa using hv⟩)
    subst hlen
    exact ⟨a0, list, c0, rfl, hl, hx⟩
end

end Go.Proofs.YtmbleojlnaofjaaDoor
