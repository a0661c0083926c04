/-
  DERIVED. GIVEN WITH THE SEED: THE CARDS: each row of YtmbleojlnaofjaaDoorRows.lean that lists a variable, with what it lists TIED to the program's text (the seventh form; the later family's looks); each row that meets fmt, with fmt's text TOLD by the authors' own Lean function (tested against real Go, not proved from fmt's source: count such statements apart). THE CARD IS WHAT COUNTS. Prove the row's statement (the work); the ties are given (YtmbleojlnaofjaaDoorTie.lean); close each card by the builder's one call (the guide's Derived/Test/ToyasCard.lean, 'card_holds'). Laid BY PROGRAM, IN A SANDBOX (cutbox-door.mjs). By AI agents, Wed Nov 11 2026. No macro, syntax, notation, axiom, sorry.
-/
import Derived.Test.YtmbleojlnaofjaaDoorRows
import GoSem.ClaimSeven
namespace Go.Proofs.YtmbleojlnaofjaaDoor
namespace Rows

/-- THE TIED CARD OF 'laws.FnTypeIndex'. -/
def fnTypeIndexCard : Claim7 := { stood := { row := fnTypeIndexRow, standIns := [], harness := (true, "f0444a5974354ed4bb06dfa4709bfdd87fb7c11cfc4764d8dbfdecb1385c8679"), looks := true }, kinds := [], alts := [], laidByText := true, laidKinds := [.data, .pinned], laidTests := true, laidLooks := .later }
def FnTypeIndexCardSaid : Prop := Claim7.holds Tryd.pinned (.plain (OpenSpec.ofChange fnTypeIndexSpec)) fnTypeIndexCard

/-- THE TIED CARD OF 'laws.FnIndexText'. -/
def fnIndexTextCard : Claim7 := { stood := { row := fnIndexTextRow, standIns := [], harness := (true, "f0444a5974354ed4bb06dfa4709bfdd87fb7c11cfc4764d8dbfdecb1385c8679"), looks := true }, kinds := [], alts := [], laidByText := true, laidKinds := [.data, .pinned], laidTests := true, laidLooks := .later }
def FnIndexTextCardSaid : Prop := Claim7.holds Tryd.pinned (.plain (OpenSpec.ofChange fnIndexTextSpec)) fnIndexTextCard

/-- THE TIED CARD OF 'laws.FnTrimStr'. -/
def fnTrimStrCard : Claim7 := { stood := { row := fnTrimStrRow, standIns := [], harness := (true, "f0444a5974354ed4bb06dfa4709bfdd87fb7c11cfc4764d8dbfdecb1385c8679"), looks := true }, kinds := [], alts := [], laidByText := true, laidKinds := [.data, .pinned], laidTests := true, laidLooks := .later }
def FnTrimStrCardSaid : Prop := Claim7.holds Tryd.pinned (.plain (OpenSpec.ofChange fnTrimStrSpec)) fnTrimStrCard

/-- THE TIED CARD OF 'laws.FnFlattenWrapped'. -/
def fnFlattenWrappedCard : Claim7 := { stood := { row := fnFlattenWrappedRow, standIns := [], harness := (true, "f0444a5974354ed4bb06dfa4709bfdd87fb7c11cfc4764d8dbfdecb1385c8679"), looks := true }, kinds := [], alts := [], laidByText := true, laidKinds := [.data, .pinned], laidTests := true, laidLooks := .later }
def FnFlattenWrappedCardSaid : Prop := Claim7.holds Tryd.pinned (.plain (OpenSpec.ofChange fnFlattenWrappedSpec)) fnFlattenWrappedCard

/-- THE SECOND FORM's CARD OF 'laws.FnTypeIndex'. -/
def fnTypeIndexUptoCard : Claim7 := { stood := { row := fnTypeIndexUptoRow, standIns := [], harness := (true, "f0444a5974354ed4bb06dfa4709bfdd87fb7c11cfc4764d8dbfdecb1385c8679"), looks := true }, kinds := [], alts := [], laidByText := true, laidKinds := [.data, .pinned], laidTests := true, laidLooks := .later }
def FnTypeIndexUptoCardSaid : Prop := Claim7.holds Tryd.pinned (.plain (OpenSpec.upto fnTypeIndexSpec)) fnTypeIndexUptoCard

/-- THE SECOND FORM's CARD OF 'laws.FnIndexText'. -/
def fnIndexTextUptoCard : Claim7 := { stood := { row := fnIndexTextUptoRow, standIns := [], harness := (true, "f0444a5974354ed4bb06dfa4709bfdd87fb7c11cfc4764d8dbfdecb1385c8679"), looks := true }, kinds := [], alts := [], laidByText := true, laidKinds := [.data, .pinned], laidTests := true, laidLooks := .later }
def FnIndexTextUptoCardSaid : Prop := Claim7.holds Tryd.pinned (.plain (OpenSpec.upto fnIndexTextSpec)) fnIndexTextUptoCard

/-- THE SECOND FORM's CARD OF 'laws.FnTrimStr'. -/
def fnTrimStrUptoCard : Claim7 := { stood := { row := fnTrimStrUptoRow, standIns := [], harness := (true, "f0444a5974354ed4bb06dfa4709bfdd87fb7c11cfc4764d8dbfdecb1385c8679"), looks := true }, kinds := [], alts := [], laidByText := true, laidKinds := [.data, .pinned], laidTests := true, laidLooks := .later }
def FnTrimStrUptoCardSaid : Prop := Claim7.holds Tryd.pinned (.plain (OpenSpec.upto fnTrimStrSpec)) fnTrimStrUptoCard

/-- THE SECOND FORM's CARD OF 'laws.FnFlattenWrapped'. -/
def fnFlattenWrappedUptoCard : Claim7 := { stood := { row := fnFlattenWrappedUptoRow, standIns := [], harness := (true, "f0444a5974354ed4bb06dfa4709bfdd87fb7c11cfc4764d8dbfdecb1385c8679"), looks := true }, kinds := [], alts := [], laidByText := true, laidKinds := [.data, .pinned], laidTests := true, laidLooks := .later }
def FnFlattenWrappedUptoCardSaid : Prop := Claim7.holds Tryd.pinned (.plain (OpenSpec.upto fnFlattenWrappedSpec)) fnFlattenWrappedUptoCard
end Rows
end Go.Proofs.YtmbleojlnaofjaaDoor
