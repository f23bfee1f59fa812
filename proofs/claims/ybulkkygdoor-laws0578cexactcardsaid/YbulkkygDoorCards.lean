/-
  DERIVED. GIVEN WITH THE SEED: THE CARDS: each row of YbulkkygDoorRows.lean that lists a variable, with what it lists TIED to the program's text (the seventh form; the later family's looks); each row that meets fmt, with fmt's text TOLD by the authors' own Lean function (tested against real Go, not proved from fmt's source: count such statements apart). THE CARD IS WHAT COUNTS. Prove the row's statement (the work); the ties are given (YbulkkygDoorTie.lean); close each card by the builder's one call (the guide's Derived/Test/ToyasCard.lean, 'card_holds'). Laid BY PROGRAM, IN A SANDBOX (cutbox-door.mjs). By AI agents, Wed Nov 11 2026. No macro, syntax, notation, axiom, sorry.
-/
import Derived.Test.YbulkkygDoorRows
import GoSem.ClaimSeven
namespace Go.Proofs.YbulkkygDoor
namespace Rows

/-- THE TIED CARD OF 'driftbound.LawS0578CExact'. -/
def lawS0578CExactCard : Claim7 := { stood := { row := lawS0578CExactRow, standIns := [], harness := (true, "009c6b74089f7c04a05524d90072d9a78e6d432f77421002e18bed8409eb614f"), looks := false }, kinds := [], alts := [], laidByText := true, laidKinds := [.data, .data, .data], laidTests := true, laidLooks := .later }
def LawS0578CExactCardSaid : Prop := Claim7.holds Ybad.pinned (.plain (OpenSpec.ofChange lawS0578CExactSpec)) lawS0578CExactCard

/-- THE TIED CARD OF 'driftbound.LawS0578CPrefix'. -/
def lawS0578CPrefixCard : Claim7 := { stood := { row := lawS0578CPrefixRow, standIns := [], harness := (true, "009c6b74089f7c04a05524d90072d9a78e6d432f77421002e18bed8409eb614f"), looks := false }, kinds := [], alts := [], laidByText := true, laidKinds := [.data, .data, .data], laidTests := true, laidLooks := .later }
def LawS0578CPrefixCardSaid : Prop := Claim7.holds Ybad.pinned (.plain (OpenSpec.ofChange lawS0578CPrefixSpec)) lawS0578CPrefixCard
end Rows
end Go.Proofs.YbulkkygDoor
