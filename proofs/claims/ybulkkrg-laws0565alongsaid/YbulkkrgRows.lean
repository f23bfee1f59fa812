/-
  No cell of these rows narrows 'for every input' (looked for: loops, veiled, ifaces, maps, wideKeys, modest, calm, conditions, laid).
  DERIVED. THE GIVEN ROWS OF THIS SEAT. 4 by the template 'for every input the law returns true; each argument reads behind the call as it read before'; 0 by the template 'total and deterministic' (their statements: YbulkkrgTotals.lean).
  GIVEN WITH THE SEED: the statements are not yours to turn. If you find one false, say at which input.
  Laid BY PROGRAM, IN A SANDBOX (cutbox-rows.mjs): the forced cells as the released guide's own fill.sh prints them over the translation cab5f0fc68ef913b… (all of the seat's roots in one cut). By AI agents, Wed Nov 11 2026. No macro, syntax, notation, axiom, sorry.
-/
import Derived.Test.YbulkkrgChecked
import GoSem.Claim
import GoSem.ClaimJoined
import GoSem.ClaimMapViews
import Derived.JoinedTies
import Derived.KernelRfl
namespace Go.Proofs.Ybulkkrg
/- THE CELL 'sum', in the pinned program and in every row, IS THE sha256 OF THE DUMP (.gsa) THAT YbulkkrgProg.lean LOADS. Nothing in Lean hashes anything: it is a label: what it is worth is what the hold of that sum in a sandbox is worth. -/
noncomputable def Yba.pinned : Pinned := { name := "ybulkkrg", sum := "cab5f0fc68ef913bfd35e910d391532a598d78816f6c208bc8468f9835d821ea", checked := Yba.checked }
namespace Rows
def none {H : Type} : Left H := { results := [], args := [] }

/-- 'varve.LawS0565AShort': WHATEVER THE INPUT: true; the input reads as it did. -/
def lawS0565AShortSpec : ChangeSpec := { name := "lawS0565AShort", fn := fun _ => fun
  | [d1, d2, d3, d4, d5, d6, d7, d8, d9] => { results := [.lit (.bool true)], args := [d1, d2, d3, d4, d5, d6, d7, d8, d9] }
  | _ => none }
def lawS0565AShortRow : OpenClaim := { program := "ybulkkrg", sum := "cab5f0fc68ef913bfd35e910d391532a598d78816f6c208bc8468f9835d821ea", func := "example.com/varve/varve.LawS0565AShort", spec := "lawS0565AShort", unfollowed := true, recurses := true, named := ["encoding/binary.LittleEndian"], apart := false }
def LawS0565AShortSaid : Prop := lawS0565AShortRow.holds Yba.pinned (OpenSpec.ofChange lawS0565AShortSpec)

/-- ITS FALSE NEIGHBOUR: 'it returns false'. Refute it at one input. -/
def lawS0565AShortWrong : ChangeSpec := { name := "lawS0565AShort", fn := fun _ => fun
  | [d1, d2, d3, d4, d5, d6, d7, d8, d9] => { results := [.lit (.bool false)], args := [d1, d2, d3, d4, d5, d6, d7, d8, d9] }
  | _ => none }
def LawS0565AShortWrongFalsely : Prop := lawS0565AShortRow.holds Yba.pinned (OpenSpec.ofChange lawS0565AShortWrong)

/-- 'varve.LawS0565ALong': WHATEVER THE INPUT: true; the input reads as it did. -/
def lawS0565ALongSpec : ChangeSpec := { name := "lawS0565ALong", fn := fun _ => fun
  | [d1, d2, d3, d4, d5, d6, d7] => { results := [.lit (.bool true)], args := [d1, d2, d3, d4, d5, d6, d7] }
  | _ => none }
def lawS0565ALongRow : OpenClaim := { program := "ybulkkrg", sum := "cab5f0fc68ef913bfd35e910d391532a598d78816f6c208bc8468f9835d821ea", func := "example.com/varve/varve.LawS0565ALong", spec := "lawS0565ALong", unfollowed := true, recurses := true, named := ["encoding/binary.LittleEndian"], apart := false }
def LawS0565ALongSaid : Prop := lawS0565ALongRow.holds Yba.pinned (OpenSpec.ofChange lawS0565ALongSpec)

/-- ITS FALSE NEIGHBOUR: 'it returns false'. Refute it at one input. -/
def lawS0565ALongWrong : ChangeSpec := { name := "lawS0565ALong", fn := fun _ => fun
  | [d1, d2, d3, d4, d5, d6, d7] => { results := [.lit (.bool false)], args := [d1, d2, d3, d4, d5, d6, d7] }
  | _ => none }
def LawS0565ALongWrongFalsely : Prop := lawS0565ALongRow.holds Yba.pinned (OpenSpec.ofChange lawS0565ALongWrong)

/-- 'varve.LawS0565CModel': WHATEVER THE INPUT: true; the input reads as it did. -/
def lawS0565CModelSpec : ChangeSpec := { name := "lawS0565CModel", fn := fun _ => fun
  | [d1, d2] => { results := [.lit (.bool true)], args := [d1, d2] }
  | _ => none }
def lawS0565CModelRow : OpenClaim := { program := "ybulkkrg", sum := "cab5f0fc68ef913bfd35e910d391532a598d78816f6c208bc8468f9835d821ea", func := "example.com/varve/varve.LawS0565CModel", spec := "lawS0565CModel", apart := false }
def LawS0565CModelSaid : Prop := lawS0565CModelRow.holds Yba.pinned (OpenSpec.ofChange lawS0565CModelSpec)

/-- ITS FALSE NEIGHBOUR: 'it returns false'. Refute it at one input. -/
def lawS0565CModelWrong : ChangeSpec := { name := "lawS0565CModel", fn := fun _ => fun
  | [d1, d2] => { results := [.lit (.bool false)], args := [d1, d2] }
  | _ => none }
def LawS0565CModelWrongFalsely : Prop := lawS0565CModelRow.holds Yba.pinned (OpenSpec.ofChange lawS0565CModelWrong)

/-- 'varve.LawS0565CSplit': WHATEVER THE INPUT: true; the input reads as it did. -/
def lawS0565CSplitSpec : ChangeSpec := { name := "lawS0565CSplit", fn := fun _ => fun
  | [d1, d2] => { results := [.lit (.bool true)], args := [d1, d2] }
  | _ => none }
def lawS0565CSplitRow : OpenClaim := { program := "ybulkkrg", sum := "cab5f0fc68ef913bfd35e910d391532a598d78816f6c208bc8468f9835d821ea", func := "example.com/varve/varve.LawS0565CSplit", spec := "lawS0565CSplit", apart := false }
def LawS0565CSplitSaid : Prop := lawS0565CSplitRow.holds Yba.pinned (OpenSpec.ofChange lawS0565CSplitSpec)

/-- ITS FALSE NEIGHBOUR: 'it returns false'. Refute it at one input. -/
def lawS0565CSplitWrong : ChangeSpec := { name := "lawS0565CSplit", fn := fun _ => fun
  | [d1, d2] => { results := [.lit (.bool false)], args := [d1, d2] }
  | _ => none }
def LawS0565CSplitWrongFalsely : Prop := lawS0565CSplitRow.holds Yba.pinned (OpenSpec.ofChange lawS0565CSplitWrong)

end Rows
end Go.Proofs.Ybulkkrg
