/-
  NARROWER THAN 'FOR EVERY INPUT', by the rows' own cells (each row's printed sentence says how): LawS0565BCode: laid · LawS0565BHeader: laid · LawS0565BBits: laid.
  DERIVED. THE GIVEN ROWS OF THIS SEAT. 3 by the template 'for every input the law returns true; each argument reads behind the call as it read before'; 0 by the template 'total and deterministic' (their statements: YbulkkrgDoorTotals.lean).
  GIVEN WITH THE SEED: the statements are not yours to turn. If you find one false, say at which input.
  Laid BY PROGRAM, IN A SANDBOX (cutbox-rows.mjs): the forced cells as the released guide's own fill.sh prints them over the translation 6d4938590f711ad5… (all of the seat's roots in one cut). By AI agents, Wed Nov 11 2026. No macro, syntax, notation, axiom, sorry.
-/
import Derived.Test.YbulkkrgDoorChecked
import GoSem.Claim
import GoSem.ClaimJoined
import GoSem.ClaimMapViews
import Derived.JoinedTies
import Derived.KernelRfl
namespace Go.Proofs.YbulkkrgDoor
/- THE CELL 'sum', in the pinned program and in every row, IS THE sha256 OF THE DUMP (.gsa) THAT YbulkkrgDoorProg.lean LOADS. Nothing in Lean hashes anything: it is a label: what it is worth is what the hold of that sum in a sandbox is worth. -/
noncomputable def Ybad.pinned : Pinned := { name := "ybulkkrgdoor", sum := "6d4938590f711ad54385aee340a731136311cb9a70005f00d8530f3354ae854a", checked := Ybad.checked }
namespace Rows
def none {H : Type} : Left H := { results := [], args := [] }

/- WHAT THE LISTED PACKAGE-LEVEL VARIABLES READ AS WHEN THE CALL BEGINS. Each datum BY PROGRAM (the guide's laid-datum.mjs) off the statement by which the dump's own 'gosem.cut.vars' lays the variable. In a bare row this is a premise. The card (YbulkkrgDoorCards.lean) ties it to the program's text. -/
def laid_example_com_varve_varve_lengthExtra {H : Type} : DataW H := .agg [.lit (.int .u8 0), .lit (.int .u8 0), .lit (.int .u8 0), .lit (.int .u8 0), .lit (.int .u8 0), .lit (.int .u8 0), .lit (.int .u8 0), .lit (.int .u8 0), .lit (.int .u8 1), .lit (.int .u8 1), .lit (.int .u8 1), .lit (.int .u8 1), .lit (.int .u8 2), .lit (.int .u8 2), .lit (.int .u8 2), .lit (.int .u8 2), .lit (.int .u8 3), .lit (.int .u8 3), .lit (.int .u8 3), .lit (.int .u8 3), .lit (.int .u8 4), .lit (.int .u8 4), .lit (.int .u8 4), .lit (.int .u8 4), .lit (.int .u8 5), .lit (.int .u8 5), .lit (.int .u8 5), .lit (.int .u8 5), .lit (.int .u8 0)]
def laid_example_com_varve_varve_distExtra {H : Type} : DataW H := .agg [.lit (.int .u8 0), .lit (.int .u8 0), .lit (.int .u8 0), .lit (.int .u8 0), .lit (.int .u8 1), .lit (.int .u8 1), .lit (.int .u8 2), .lit (.int .u8 2), .lit (.int .u8 3), .lit (.int .u8 3), .lit (.int .u8 4), .lit (.int .u8 4), .lit (.int .u8 5), .lit (.int .u8 5), .lit (.int .u8 6), .lit (.int .u8 6), .lit (.int .u8 7), .lit (.int .u8 7), .lit (.int .u8 8), .lit (.int .u8 8), .lit (.int .u8 9), .lit (.int .u8 9), .lit (.int .u8 10), .lit (.int .u8 10), .lit (.int .u8 11), .lit (.int .u8 11), .lit (.int .u8 12), .lit (.int .u8 12), .lit (.int .u8 13), .lit (.int .u8 13)]
def laid_example_com_varve_varve_clOrder {H : Type} : DataW H := .agg [.lit (.int .u8 16), .lit (.int .u8 17), .lit (.int .u8 18), .lit (.int .u8 0), .lit (.int .u8 8), .lit (.int .u8 7), .lit (.int .u8 9), .lit (.int .u8 6), .lit (.int .u8 10), .lit (.int .u8 5), .lit (.int .u8 11), .lit (.int .u8 4), .lit (.int .u8 12), .lit (.int .u8 3), .lit (.int .u8 13), .lit (.int .u8 2), .lit (.int .u8 14), .lit (.int .u8 1), .lit (.int .u8 15)]
def laid_example_com_varve_varve_clExtra {H : Type} : DataW H := .agg [.lit (.int .u8 0), .lit (.int .u8 0), .lit (.int .u8 0), .lit (.int .u8 0), .lit (.int .u8 0), .lit (.int .u8 0), .lit (.int .u8 0), .lit (.int .u8 0), .lit (.int .u8 0), .lit (.int .u8 0), .lit (.int .u8 0), .lit (.int .u8 0), .lit (.int .u8 0), .lit (.int .u8 0), .lit (.int .u8 0), .lit (.int .u8 0), .lit (.int .u8 2), .lit (.int .u8 3), .lit (.int .u8 7)]

/-- 'varve.LawS0565BCode': WHATEVER THE INPUT: true; the input reads as it did. -/
def lawS0565BCodeSpec : ChangeSpec := { name := "lawS0565BCode", vars := ["example.com/varve/varve.clOrder", "example.com/varve/varve.clExtra", "example.com/varve/varve.lengthExtra", "example.com/varve/varve.distExtra"], fn := fun _ => fun
  | [d1, d2, g1, g2, g3, g4] => { results := [.lit (.bool true)], args := [d1, d2], vars := [g1, g2, g3, g4] }
  | _ => none }
def lawS0565BCodeRow : OpenClaim := { program := "ybulkkrgdoor", sum := "6d4938590f711ad54385aee340a731136311cb9a70005f00d8530f3354ae854a", func := "example.com/varve/varve.LawS0565BCode", spec := "lawS0565BCode", unfollowed := true, recurses := true, named := ["example.com/varve/varve.clOrder", "example.com/varve/varve.clExtra", "example.com/varve/varve.lengthExtra", "example.com/varve/varve.distExtra"], apart := false, laid := [("example.com/varve/varve.lengthExtra", laid_example_com_varve_varve_lengthExtra), ("example.com/varve/varve.distExtra", laid_example_com_varve_varve_distExtra), ("example.com/varve/varve.clOrder", laid_example_com_varve_varve_clOrder), ("example.com/varve/varve.clExtra", laid_example_com_varve_varve_clExtra)] }
def LawS0565BCodeSaid : Prop := lawS0565BCodeRow.holds Ybad.pinned (OpenSpec.ofChange lawS0565BCodeSpec)

/-- ITS FALSE NEIGHBOUR: 'it returns false'. Refute it at one input. -/
def lawS0565BCodeWrong : ChangeSpec := { name := "lawS0565BCode", vars := ["example.com/varve/varve.clOrder", "example.com/varve/varve.clExtra", "example.com/varve/varve.lengthExtra", "example.com/varve/varve.distExtra"], fn := fun _ => fun
  | [d1, d2, g1, g2, g3, g4] => { results := [.lit (.bool false)], args := [d1, d2], vars := [g1, g2, g3, g4] }
  | _ => none }
def LawS0565BCodeWrongFalsely : Prop := lawS0565BCodeRow.holds Ybad.pinned (OpenSpec.ofChange lawS0565BCodeWrong)

/-- 'varve.LawS0565BHeader': WHATEVER THE INPUT: true; the input reads as it did. -/
def lawS0565BHeaderSpec : ChangeSpec := { name := "lawS0565BHeader", vars := ["example.com/varve/varve.clOrder", "example.com/varve/varve.clExtra", "example.com/varve/varve.lengthExtra", "example.com/varve/varve.distExtra"], fn := fun _ => fun
  | [d1, d2, g1, g2, g3, g4] => { results := [.lit (.bool true)], args := [d1, d2], vars := [g1, g2, g3, g4] }
  | _ => none }
def lawS0565BHeaderRow : OpenClaim := { program := "ybulkkrgdoor", sum := "6d4938590f711ad54385aee340a731136311cb9a70005f00d8530f3354ae854a", func := "example.com/varve/varve.LawS0565BHeader", spec := "lawS0565BHeader", unfollowed := true, recurses := true, named := ["example.com/varve/varve.clOrder", "example.com/varve/varve.clExtra", "example.com/varve/varve.lengthExtra", "example.com/varve/varve.distExtra"], apart := false, laid := [("example.com/varve/varve.lengthExtra", laid_example_com_varve_varve_lengthExtra), ("example.com/varve/varve.distExtra", laid_example_com_varve_varve_distExtra), ("example.com/varve/varve.clOrder", laid_example_com_varve_varve_clOrder), ("example.com/varve/varve.clExtra", laid_example_com_varve_varve_clExtra)] }
def LawS0565BHeaderSaid : Prop := lawS0565BHeaderRow.holds Ybad.pinned (OpenSpec.ofChange lawS0565BHeaderSpec)

/-- ITS FALSE NEIGHBOUR: 'it returns false'. Refute it at one input. -/
def lawS0565BHeaderWrong : ChangeSpec := { name := "lawS0565BHeader", vars := ["example.com/varve/varve.clOrder", "example.com/varve/varve.clExtra", "example.com/varve/varve.lengthExtra", "example.com/varve/varve.distExtra"], fn := fun _ => fun
  | [d1, d2, g1, g2, g3, g4] => { results := [.lit (.bool false)], args := [d1, d2], vars := [g1, g2, g3, g4] }
  | _ => none }
def LawS0565BHeaderWrongFalsely : Prop := lawS0565BHeaderRow.holds Ybad.pinned (OpenSpec.ofChange lawS0565BHeaderWrong)

/-- 'varve.LawS0565BBits': WHATEVER THE INPUT: true; the input reads as it did. -/
def lawS0565BBitsSpec : ChangeSpec := { name := "lawS0565BBits", vars := ["example.com/varve/varve.clOrder", "example.com/varve/varve.clExtra", "example.com/varve/varve.lengthExtra", "example.com/varve/varve.distExtra"], fn := fun _ => fun
  | [d1, d2, g1, g2, g3, g4] => { results := [.lit (.bool true)], args := [d1, d2], vars := [g1, g2, g3, g4] }
  | _ => none }
def lawS0565BBitsRow : OpenClaim := { program := "ybulkkrgdoor", sum := "6d4938590f711ad54385aee340a731136311cb9a70005f00d8530f3354ae854a", func := "example.com/varve/varve.LawS0565BBits", spec := "lawS0565BBits", unfollowed := true, recurses := true, named := ["example.com/varve/varve.clOrder", "example.com/varve/varve.clExtra", "example.com/varve/varve.lengthExtra", "example.com/varve/varve.distExtra"], apart := false, laid := [("example.com/varve/varve.lengthExtra", laid_example_com_varve_varve_lengthExtra), ("example.com/varve/varve.distExtra", laid_example_com_varve_varve_distExtra), ("example.com/varve/varve.clOrder", laid_example_com_varve_varve_clOrder), ("example.com/varve/varve.clExtra", laid_example_com_varve_varve_clExtra)] }
def LawS0565BBitsSaid : Prop := lawS0565BBitsRow.holds Ybad.pinned (OpenSpec.ofChange lawS0565BBitsSpec)

/-- ITS FALSE NEIGHBOUR: 'it returns false'. Refute it at one input. -/
def lawS0565BBitsWrong : ChangeSpec := { name := "lawS0565BBits", vars := ["example.com/varve/varve.clOrder", "example.com/varve/varve.clExtra", "example.com/varve/varve.lengthExtra", "example.com/varve/varve.distExtra"], fn := fun _ => fun
  | [d1, d2, g1, g2, g3, g4] => { results := [.lit (.bool false)], args := [d1, d2], vars := [g1, g2, g3, g4] }
  | _ => none }
def LawS0565BBitsWrongFalsely : Prop := lawS0565BBitsRow.holds Ybad.pinned (OpenSpec.ofChange lawS0565BBitsWrong)

end Rows
end Go.Proofs.YbulkkrgDoor
