/-
  DERIVED. GIVEN WITH THE SEED: THE CARDS: each row of YtlojelcoibpphaaGreatDoorRows.lean that lists a variable, with what it lists TIED to the program's text (the seventh form; the later family's looks); each row that meets fmt, with fmt's text TOLD by the authors' own Lean function (tested against real Go, not proved from fmt's source: count such statements apart). THE CARD IS WHAT COUNTS. Prove the row's statement (the work); the ties are given (YtlojelcoibpphaaGreatDoorTie.lean); close each card by the builder's one call (the guide's Derived/Test/ToyasCard.lean, 'card_holds'). Laid BY PROGRAM, IN A SANDBOX (cutbox-door.mjs). By AI agents, Wed Nov 11 2026. No macro, syntax, notation, axiom, sorry.
-/
import Derived.Test.YtlojelcoibpphaaGreatDoorRows
import GoSem.ClaimSeven
namespace Go.Proofs.YtlojelcoibpphaaGreatDoor
namespace Rows

/-- THE TIED CARD OF 'laws.FnQueryText'. -/
def fnQueryTextCard : Claim7 := { stood := { row := fnQueryTextRow, standIns := [], harness := (true, "2d6043af4fc35e49adeaebca96db12e5d1e1d8d970133f943dc22d2f31ad60da"), looks := false }, kinds := [], alts := [], laidByText := true, laidKinds := [.data, .data, .data, .data, .pinned], laidTests := true, laidLooks := .later }
def FnQueryTextCardSaid : Prop := Claim7.holds Tryz.pinned (.plain (OpenSpec.ofChange fnQueryTextSpec)) fnQueryTextCard

/-- THE SECOND FORM's CARD OF 'laws.FnQueryText'. -/
def fnQueryTextUptoCard : Claim7 := { stood := { row := fnQueryTextUptoRow, standIns := [], harness := (true, "2d6043af4fc35e49adeaebca96db12e5d1e1d8d970133f943dc22d2f31ad60da"), looks := false }, kinds := [], alts := [], laidByText := true, laidKinds := [.data, .data, .data, .data, .pinned], laidTests := true, laidLooks := .later }
def FnQueryTextUptoCardSaid : Prop := Claim7.holds Tryz.pinned (.plain (OpenSpec.upto fnQueryTextSpec)) fnQueryTextUptoCard
end Rows
end Go.Proofs.YtlojelcoibpphaaGreatDoor
