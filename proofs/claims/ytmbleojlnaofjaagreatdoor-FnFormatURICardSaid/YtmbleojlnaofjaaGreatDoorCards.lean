/-
  DERIVED. GIVEN WITH THE SEED: THE CARDS: each row of YtmbleojlnaofjaaGreatDoorRows.lean that lists a variable, with what it lists TIED to the program's text (the seventh form; the later family's looks); each row that meets fmt, with fmt's text TOLD by the authors' own Lean function (tested against real Go, not proved from fmt's source: count such statements apart). THE CARD IS WHAT COUNTS. Prove the row's statement (the work); the ties are given (YtmbleojlnaofjaaGreatDoorTie.lean); close each card by the builder's one call (the guide's Derived/Test/ToyasCard.lean, 'card_holds'). Laid BY PROGRAM, IN A SANDBOX (cutbox-door.mjs). By AI agents, Wed Nov 11 2026. No macro, syntax, notation, axiom, sorry.
-/
import Derived.Test.YtmbleojlnaofjaaGreatDoorRows
import GoSem.ClaimSeven
namespace Go.Proofs.YtmbleojlnaofjaaGreatDoor
namespace Rows

/-- THE TIED CARD OF 'laws.FnKeys'. -/
def fnKeysCard : Claim7 := { stood := { row := fnKeysRow, standIns := [], harness := (true, "d8c43f41b3abf2cbeed04a4156fff34cc5bd27ffb41af55012741f510ce98036"), looks := true }, kinds := [], alts := [], laidByText := true, laidKinds := [.data, .pinned], laidTests := true, laidLooks := .later }
def FnKeysCardSaid : Prop := Claim7.holds Tryz.pinned (.plain (OpenSpec.ofChange fnKeysSpec)) fnKeysCard

/-- THE TIED CARD OF 'laws.FnToString'. -/
def fnToStringCard : Claim7 := { stood := { row := fnToStringRow, standIns := [], harness := (true, "d8c43f41b3abf2cbeed04a4156fff34cc5bd27ffb41af55012741f510ce98036"), looks := true }, kinds := [], alts := [], laidByText := true, laidKinds := [.data, .pinned], laidTests := true, laidLooks := .later }
def FnToStringCardSaid : Prop := Claim7.holds Tryz.pinned (.plain (OpenSpec.ofChange fnToStringSpec)) fnToStringCard

/-- THE TIED CARD OF 'laws.FnHTMLBack'. -/
def fnHTMLBackCard : Claim7 := { stood := { row := fnHTMLBackRow, standIns := [], harness := (true, "d8c43f41b3abf2cbeed04a4156fff34cc5bd27ffb41af55012741f510ce98036"), looks := true }, kinds := [], alts := [], laidByText := true, laidKinds := [.data, .pinned], laidTests := true, laidLooks := .later }
def FnHTMLBackCardSaid : Prop := Claim7.holds Tryz.pinned (.plain (OpenSpec.ofChange fnHTMLBackSpec)) fnHTMLBackCard

/-- THE TIED CARD OF 'laws.FnFormatURI'. -/
def fnFormatURICard : Claim7 := { stood := { row := fnFormatURIRow, standIns := [], harness := (true, "d8c43f41b3abf2cbeed04a4156fff34cc5bd27ffb41af55012741f510ce98036"), looks := true }, kinds := [], alts := [], laidByText := true, laidKinds := [.data, .data, .pinned], laidTests := true, laidLooks := .later }
def FnFormatURICardSaid : Prop := Claim7.holds Tryz.pinned (.plain (OpenSpec.ofChange fnFormatURISpec)) fnFormatURICard

/-- THE SECOND FORM's CARD OF 'laws.FnKeys'. -/
def fnKeysUptoCard : Claim7 := { stood := { row := fnKeysUptoRow, standIns := [], harness := (true, "d8c43f41b3abf2cbeed04a4156fff34cc5bd27ffb41af55012741f510ce98036"), looks := true }, kinds := [], alts := [], laidByText := true, laidKinds := [.data, .pinned], laidTests := true, laidLooks := .later }
def FnKeysUptoCardSaid : Prop := Claim7.holds Tryz.pinned (.plain (OpenSpec.upto fnKeysSpec)) fnKeysUptoCard

/-- THE SECOND FORM's CARD OF 'laws.FnToString'. -/
def fnToStringUptoCard : Claim7 := { stood := { row := fnToStringUptoRow, standIns := [], harness := (true, "d8c43f41b3abf2cbeed04a4156fff34cc5bd27ffb41af55012741f510ce98036"), looks := true }, kinds := [], alts := [], laidByText := true, laidKinds := [.data, .pinned], laidTests := true, laidLooks := .later }
def FnToStringUptoCardSaid : Prop := Claim7.holds Tryz.pinned (.plain (OpenSpec.upto fnToStringSpec)) fnToStringUptoCard

/-- THE SECOND FORM's CARD OF 'laws.FnHTMLBack'. -/
def fnHTMLBackUptoCard : Claim7 := { stood := { row := fnHTMLBackUptoRow, standIns := [], harness := (true, "d8c43f41b3abf2cbeed04a4156fff34cc5bd27ffb41af55012741f510ce98036"), looks := true }, kinds := [], alts := [], laidByText := true, laidKinds := [.data, .pinned], laidTests := true, laidLooks := .later }
def FnHTMLBackUptoCardSaid : Prop := Claim7.holds Tryz.pinned (.plain (OpenSpec.upto fnHTMLBackSpec)) fnHTMLBackUptoCard

/-- THE SECOND FORM's CARD OF 'laws.FnFormatURI'. -/
def fnFormatURIUptoCard : Claim7 := { stood := { row := fnFormatURIUptoRow, standIns := [], harness := (true, "d8c43f41b3abf2cbeed04a4156fff34cc5bd27ffb41af55012741f510ce98036"), looks := true }, kinds := [], alts := [], laidByText := true, laidKinds := [.data, .data, .pinned], laidTests := true, laidLooks := .later }
def FnFormatURIUptoCardSaid : Prop := Claim7.holds Tryz.pinned (.plain (OpenSpec.upto fnFormatURISpec)) fnFormatURIUptoCard
end Rows
end Go.Proofs.YtmbleojlnaofjaaGreatDoor
