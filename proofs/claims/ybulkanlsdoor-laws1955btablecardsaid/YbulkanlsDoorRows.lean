/-
  NARROWER THAN 'FOR EVERY INPUT', by the rows' own cells (each row's printed sentence says how): LawS1955BTable: laid · LawS1955BBuilt: laid.
  DERIVED. THE GIVEN ROWS OF THIS SEAT. 2 by the template 'for every input the law returns true; each argument reads behind the call as it read before'; 0 by the template 'total and deterministic' (their statements: YbulkanlsDoorTotals.lean).
  GIVEN WITH THE SEED: the statements are not yours to turn. If you find one false, say at which input.
  Laid BY PROGRAM, IN A SANDBOX (cutbox-rows.mjs): the forced cells as the released guide's own fill.sh prints them over the translation 5ac283bf93906251… (all of the seat's roots in one cut). By AI agents, Wed Nov 11 2026. No macro, syntax, notation, axiom, sorry.
-/
import Derived.Test.YbulkanlsDoorChecked
import GoSem.Claim
import GoSem.ClaimJoined
import GoSem.ClaimMapViews
import Derived.JoinedTies
import Derived.KernelRfl
namespace Go.Proofs.YbulkanlsDoor
/- THE CELL 'sum', in the pinned program and in every row, IS THE sha256 OF THE DUMP (.gsa) THAT YbulkanlsDoorProg.lean LOADS. Nothing in Lean hashes anything: it is a label: what it is worth is what the hold of that sum in a sandbox is worth. -/
noncomputable def Ybad.pinned : Pinned := { name := "ybulkanlsdoor", sum := "5ac283bf93906251176a82ca2e726431234208d70593cbed5dda0d82d6c1d488", checked := Ybad.checked }
namespace Rows
def none {H : Type} : Left H := { results := [], args := [] }

/- WHAT THE LISTED PACKAGE-LEVEL VARIABLES READ AS WHEN THE CALL BEGINS. Each datum BY PROGRAM (the guide's laid-datum.mjs) off the statement by which the dump's own 'gosem.cut.vars' lays the variable. In a bare row this is a premise. The card (YbulkanlsDoorCards.lean) ties it to the program's text. -/
def laid_example_com_tickroute_tickroute_config_puncts {H : Type} : DataW H := .slice [.lit (.string [61, 61]), .lit (.string [33, 61]), .lit (.string [38, 38]), .lit (.string [124, 124]), .lit (.string [33]), .lit (.string [40]), .lit (.string [41]), .lit (.string [91]), .lit (.string [93]), .lit (.string [123]), .lit (.string [125]), .lit (.string [44]), .lit (.string [59])] []

/-- 'config.LawS1955BTable': WHATEVER THE INPUT: true; the input reads as it did. -/
def lawS1955BTableSpec : ChangeSpec := { name := "lawS1955BTable", vars := ["example.com/tickroute/tickroute/config.puncts"], fn := fun _ => fun
  | [d, g1] => { results := [.lit (.bool true)], args := [d], vars := [g1] }
  | _ => none }
def lawS1955BTableRow : OpenClaim := { program := "ybulkanlsdoor", sum := "5ac283bf93906251176a82ca2e726431234208d70593cbed5dda0d82d6c1d488", func := "example.com/tickroute/tickroute/config.LawS1955BTable", spec := "lawS1955BTable", named := ["example.com/tickroute/tickroute/config.puncts"], apart := false, laid := [("example.com/tickroute/tickroute/config.puncts", laid_example_com_tickroute_tickroute_config_puncts)] }
def LawS1955BTableSaid : Prop := lawS1955BTableRow.holds Ybad.pinned (OpenSpec.ofChange lawS1955BTableSpec)

/-- ITS FALSE NEIGHBOUR: 'it returns false'. Refute it at one input. -/
def lawS1955BTableWrong : ChangeSpec := { name := "lawS1955BTable", vars := ["example.com/tickroute/tickroute/config.puncts"], fn := fun _ => fun
  | [d, g1] => { results := [.lit (.bool false)], args := [d], vars := [g1] }
  | _ => none }
def LawS1955BTableWrongFalsely : Prop := lawS1955BTableRow.holds Ybad.pinned (OpenSpec.ofChange lawS1955BTableWrong)

/-- 'config.LawS1955BBuilt': WHATEVER THE INPUT: true; the input reads as it did. -/
def lawS1955BBuiltSpec : ChangeSpec := { name := "lawS1955BBuilt", vars := ["example.com/tickroute/tickroute/config.puncts"], fn := fun _ => fun
  | [d1, d2, g1] => { results := [.lit (.bool true)], args := [d1, d2], vars := [g1] }
  | _ => none }
def lawS1955BBuiltRow : OpenClaim := { program := "ybulkanlsdoor", sum := "5ac283bf93906251176a82ca2e726431234208d70593cbed5dda0d82d6c1d488", func := "example.com/tickroute/tickroute/config.LawS1955BBuilt", spec := "lawS1955BBuilt", named := ["example.com/tickroute/tickroute/config.puncts"], apart := false, laid := [("example.com/tickroute/tickroute/config.puncts", laid_example_com_tickroute_tickroute_config_puncts)] }
def LawS1955BBuiltSaid : Prop := lawS1955BBuiltRow.holds Ybad.pinned (OpenSpec.ofChange lawS1955BBuiltSpec)

/-- ITS FALSE NEIGHBOUR: 'it returns false'. Refute it at one input. -/
def lawS1955BBuiltWrong : ChangeSpec := { name := "lawS1955BBuilt", vars := ["example.com/tickroute/tickroute/config.puncts"], fn := fun _ => fun
  | [d1, d2, g1] => { results := [.lit (.bool false)], args := [d1, d2], vars := [g1] }
  | _ => none }
def LawS1955BBuiltWrongFalsely : Prop := lawS1955BBuiltRow.holds Ybad.pinned (OpenSpec.ofChange lawS1955BBuiltWrong)

end Rows
end Go.Proofs.YbulkanlsDoor
