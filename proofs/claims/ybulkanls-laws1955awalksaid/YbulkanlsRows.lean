/-
  No cell of these rows narrows 'for every input' (looked for: loops, veiled, ifaces, maps, wideKeys, modest, calm, conditions, laid).
  DERIVED. THE GIVEN ROWS OF THIS SEAT. 2 by the template 'for every input the law returns true; each argument reads behind the call as it read before'; 0 by the template 'total and deterministic' (their statements: YbulkanlsTotals.lean).
  GIVEN WITH THE SEED: the statements are not yours to turn. If you find one false, say at which input.
  Laid BY PROGRAM, IN A SANDBOX (cutbox-rows.mjs): the forced cells as the released guide's own fill.sh prints them over the translation 8528a158b88e2db8… (all of the seat's roots in one cut). By AI agents, Wed Nov 11 2026. No macro, syntax, notation, axiom, sorry.
-/
import Derived.Test.YbulkanlsChecked
import GoSem.Claim
import GoSem.ClaimJoined
import GoSem.ClaimMapViews
import Derived.JoinedTies
import Derived.KernelRfl
namespace Go.Proofs.Ybulkanls
/- THE CELL 'sum', in the pinned program and in every row, IS THE sha256 OF THE DUMP (.gsa) THAT YbulkanlsProg.lean LOADS. Nothing in Lean hashes anything: it is a label: what it is worth is what the hold of that sum in a sandbox is worth. -/
noncomputable def Yba.pinned : Pinned := { name := "ybulkanls", sum := "8528a158b88e2db8ecc2e79cc7a0220ec6b957e25e85d7014c8f4cab0347bd7d", checked := Yba.checked }
namespace Rows
def none {H : Type} : Left H := { results := [], args := [] }

/-- 'config.LawS1955ANext': WHATEVER THE INPUT: true; the input reads as it did. -/
def lawS1955ANextSpec : ChangeSpec := { name := "lawS1955ANext", fn := fun _ => fun
  | [d1, d2] => { results := [.lit (.bool true)], args := [d1, d2] }
  | _ => none }
def lawS1955ANextRow : OpenClaim := { program := "ybulkanls", sum := "8528a158b88e2db8ecc2e79cc7a0220ec6b957e25e85d7014c8f4cab0347bd7d", func := "example.com/tickroute/tickroute/config.LawS1955ANext", spec := "lawS1955ANext", apart := false }
def LawS1955ANextSaid : Prop := lawS1955ANextRow.holds Yba.pinned (OpenSpec.ofChange lawS1955ANextSpec)

/-- ITS FALSE NEIGHBOUR: 'it returns false'. Refute it at one input. -/
def lawS1955ANextWrong : ChangeSpec := { name := "lawS1955ANext", fn := fun _ => fun
  | [d1, d2] => { results := [.lit (.bool false)], args := [d1, d2] }
  | _ => none }
def LawS1955ANextWrongFalsely : Prop := lawS1955ANextRow.holds Yba.pinned (OpenSpec.ofChange lawS1955ANextWrong)

/-- 'config.LawS1955AWalk': WHATEVER THE INPUT: true; the input reads as it did. -/
def lawS1955AWalkSpec : ChangeSpec := { name := "lawS1955AWalk", fn := fun _ => fun
  | [d] => { results := [.lit (.bool true)], args := [d] }
  | _ => none }
def lawS1955AWalkRow : OpenClaim := { program := "ybulkanls", sum := "8528a158b88e2db8ecc2e79cc7a0220ec6b957e25e85d7014c8f4cab0347bd7d", func := "example.com/tickroute/tickroute/config.LawS1955AWalk", spec := "lawS1955AWalk", apart := false }
def LawS1955AWalkSaid : Prop := lawS1955AWalkRow.holds Yba.pinned (OpenSpec.ofChange lawS1955AWalkSpec)

/-- ITS FALSE NEIGHBOUR: 'it returns false'. Refute it at one input. -/
def lawS1955AWalkWrong : ChangeSpec := { name := "lawS1955AWalk", fn := fun _ => fun
  | [d] => { results := [.lit (.bool false)], args := [d] }
  | _ => none }
def LawS1955AWalkWrongFalsely : Prop := lawS1955AWalkRow.holds Yba.pinned (OpenSpec.ofChange lawS1955AWalkWrong)

end Rows
end Go.Proofs.Ybulkanls
