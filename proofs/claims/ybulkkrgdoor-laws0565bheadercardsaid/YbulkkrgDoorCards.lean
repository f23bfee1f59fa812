/-
  DERIVED. GIVEN WITH THE SEED: THE CARDS: each row of YbulkkrgDoorRows.lean that lists a variable, with what it lists TIED to the program's text (the seventh form; the later family's looks); each row that meets fmt, with fmt's text TOLD by the authors' own Lean function (tested against real Go, not proved from fmt's source: count such statements apart). THE CARD IS WHAT COUNTS. Prove the row's statement (the work); the ties are given (YbulkkrgDoorTie.lean); close each card by the builder's one call (the guide's Derived/Test/ToyasCard.lean, 'card_holds'). Laid BY PROGRAM, IN A SANDBOX (cutbox-door.mjs). By AI agents, Wed Nov 11 2026. No macro, syntax, notation, axiom, sorry.
-/
import Derived.Test.YbulkkrgDoorRows
import GoSem.ClaimSeven
namespace Go.Proofs.YbulkkrgDoor
namespace Rows

/-- THE TIED CARD OF 'varve.LawS0565BCode'. -/
def lawS0565BCodeCard : Claim7 := { stood := { row := lawS0565BCodeRow, standIns := [], harness := (true, "23a29b57176b5ea972e1197f3dedcf1f44d00becc3c05258038f401b0ae92925"), looks := false }, kinds := [], alts := [], laidByText := true, laidKinds := [.wider, .called, .widerDeep, .data], laidTests := true, laidLooks := .later }
def LawS0565BCodeCardSaid : Prop := Claim7.holds Ybad.pinned (.plain (OpenSpec.ofChange lawS0565BCodeSpec)) lawS0565BCodeCard

/-- THE TIED CARD OF 'varve.LawS0565BHeader'. -/
def lawS0565BHeaderCard : Claim7 := { stood := { row := lawS0565BHeaderRow, standIns := [], harness := (true, "23a29b57176b5ea972e1197f3dedcf1f44d00becc3c05258038f401b0ae92925"), looks := false }, kinds := [], alts := [], laidByText := true, laidKinds := [.wider, .called, .widerDeep, .data], laidTests := true, laidLooks := .later }
def LawS0565BHeaderCardSaid : Prop := Claim7.holds Ybad.pinned (.plain (OpenSpec.ofChange lawS0565BHeaderSpec)) lawS0565BHeaderCard

/-- THE TIED CARD OF 'varve.LawS0565BBits'. -/
def lawS0565BBitsCard : Claim7 := { stood := { row := lawS0565BBitsRow, standIns := [], harness := (true, "23a29b57176b5ea972e1197f3dedcf1f44d00becc3c05258038f401b0ae92925"), looks := false }, kinds := [], alts := [], laidByText := true, laidKinds := [.wider, .called, .widerDeep, .data], laidTests := true, laidLooks := .later }
def LawS0565BBitsCardSaid : Prop := Claim7.holds Ybad.pinned (.plain (OpenSpec.ofChange lawS0565BBitsSpec)) lawS0565BBitsCard
end Rows
end Go.Proofs.YbulkkrgDoor
