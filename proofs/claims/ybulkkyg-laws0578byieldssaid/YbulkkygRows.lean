/-
  No cell of these rows narrows 'for every input' (looked for: loops, veiled, ifaces, maps, wideKeys, modest, calm, conditions, laid).
  DERIVED. THE GIVEN ROWS OF THIS SEAT. 1 by the template 'for every input the law returns true; each argument reads behind the call as it read before'; 0 by the template 'total and deterministic' (their statements: YbulkkygTotals.lean).
  GIVEN WITH THE SEED: the statements are not yours to turn. If you find one false, say at which input.
  Laid BY PROGRAM, IN A SANDBOX (cutbox-rows.mjs): the forced cells as the released guide's own fill.sh prints them over the translation f97386cf9a022e0a… (all of the seat's roots in one cut). By AI agents, Wed Nov 11 2026. No macro, syntax, notation, axiom, sorry.
-/
import Derived.Test.YbulkkygChecked
import GoSem.Claim
import GoSem.ClaimJoined
import GoSem.ClaimMapViews
import Derived.JoinedTies
import Derived.KernelRfl
namespace Go.Proofs.Ybulkkyg
/- THE CELL 'sum', in the pinned program and in every row, IS THE sha256 OF THE DUMP (.gsa) THAT YbulkkygProg.lean LOADS. Nothing in Lean hashes anything: it is a label: what it is worth is what the hold of that sum in a sandbox is worth. -/
noncomputable def Yba.pinned : Pinned := { name := "ybulkkyg", sum := "f97386cf9a022e0a98adda8d1162ebbe2870f0787dfd5fc066a113acada0a8c9", checked := Yba.checked }
namespace Rows
def none {H : Type} : Left H := { results := [], args := [] }

/-- 'driftbound.LawS0578BYields': WHATEVER THE INPUT: true; the input reads as it did. -/
def lawS0578BYieldsSpec : ChangeSpec := { name := "lawS0578BYields", fn := fun _ => fun
  | [d1, d2, d3] => { results := [.lit (.bool true)], args := [d1, d2, d3] }
  | _ => none }
def lawS0578BYieldsRow : OpenClaim := { program := "ybulkkyg", sum := "f97386cf9a022e0a98adda8d1162ebbe2870f0787dfd5fc066a113acada0a8c9", func := "example.com/driftbound/driftbound.LawS0578BYields", spec := "lawS0578BYields", unfollowed := true, recurses := true, apart := false }
def LawS0578BYieldsSaid : Prop := lawS0578BYieldsRow.holds Yba.pinned (OpenSpec.ofChange lawS0578BYieldsSpec)

/-- ITS FALSE NEIGHBOUR: 'it returns false'. Refute it at one input. -/
def lawS0578BYieldsWrong : ChangeSpec := { name := "lawS0578BYields", fn := fun _ => fun
  | [d1, d2, d3] => { results := [.lit (.bool false)], args := [d1, d2, d3] }
  | _ => none }
def LawS0578BYieldsWrongFalsely : Prop := lawS0578BYieldsRow.holds Yba.pinned (OpenSpec.ofChange lawS0578BYieldsWrong)

end Rows
end Go.Proofs.Ybulkkyg
