/-
  No cell of these rows narrows 'for every input' (looked for: loops, veiled, ifaces, maps, wideKeys, modest, calm, conditions, laid).
  DERIVED. THE GIVEN ROWS OF THIS SEAT. 3 by the template 'for every input the law returns true; each argument reads behind the call as it read before'; 0 by the template 'total and deterministic' (their statements: YbulkanmgRRTotals.lean).
  GIVEN WITH THE SEED: the statements are not yours to turn. If you find one false, say at which input.
  Laid BY PROGRAM, IN A SANDBOX (cutbox-rows.mjs): the forced cells as the released guide's own fill.sh prints them over the translation 32e0c299bdcacb18… (all of the seat's roots in one cut). By AI agents, Wed Nov 11 2026. No macro, syntax, notation, axiom, sorry.
-/
import Derived.Test.YbulkanmgRRChecked
import GoSem.Claim
import GoSem.ClaimJoined
import GoSem.ClaimMapViews
import Derived.JoinedTies
import Derived.KernelRfl
namespace Go.Proofs.YbulkanmgRR
/- THE CELL 'sum', in the pinned program and in every row, IS THE sha256 OF THE DUMP (.gsa) THAT YbulkanmgRRProg.lean LOADS. Nothing in Lean hashes anything: it is a label: what it is worth is what the hold of that sum in a sandbox is worth. -/
noncomputable def Yba.pinned : Pinned := { name := "ybulkanmgrr", sum := "32e0c299bdcacb18d54faf67a78cd7e696b7264bcf812ce34bd443f723794dd3", checked := Yba.checked }
namespace Rows
def none {H : Type} : Left H := { results := [], args := [] }

/-- 'knotcutter.LawS1956BNoLossWhenRoom': WHATEVER THE INPUT: true; the input reads as it did. -/
def lawS1956BNoLossWhenRoomSpec : ChangeSpec := { name := "lawS1956BNoLossWhenRoom", fn := fun _ => fun
  | [d1, d2, d3] => { results := [.lit (.bool true)], args := [d1, d2, d3] }
  | _ => none }
def lawS1956BNoLossWhenRoomRow : OpenClaim := { program := "ybulkanmgrr", sum := "32e0c299bdcacb18d54faf67a78cd7e696b7264bcf812ce34bd443f723794dd3", func := "example.com/knotcutter/knotcutter.LawS1956BNoLossWhenRoom", spec := "lawS1956BNoLossWhenRoom", inPlace := ["(*internal/sync.Mutex).Lock", "internal/race.Disable", "sync/atomic.CompareAndSwapInt32", "internal/race.Enable", "internal/race.Acquire", "(*internal/sync.Mutex).lockSlow", "internal/sync.runtime_canSpin", "internal/sync.runtime_doSpin", "internal/sync.throw", "internal/sync.runtime_nanotime", "internal/sync.runtime_SemacquireMutex", "sync/atomic.AddInt32", "(*internal/sync.Mutex).Unlock", "internal/race.ReleaseMerge", "(*internal/sync.Mutex).unlockSlow", "internal/sync.fatal", "internal/sync.runtime_Semrelease"], unfollowed := true, recurses := true, apart := false }
def LawS1956BNoLossWhenRoomSaid : Prop := lawS1956BNoLossWhenRoomRow.holds Yba.pinned (OpenSpec.ofChange lawS1956BNoLossWhenRoomSpec)

/-- ITS FALSE NEIGHBOUR: 'it returns false'. Refute it at one input. -/
def lawS1956BNoLossWhenRoomWrong : ChangeSpec := { name := "lawS1956BNoLossWhenRoom", fn := fun _ => fun
  | [d1, d2, d3] => { results := [.lit (.bool false)], args := [d1, d2, d3] }
  | _ => none }
def LawS1956BNoLossWhenRoomWrongFalsely : Prop := lawS1956BNoLossWhenRoomRow.holds Yba.pinned (OpenSpec.ofChange lawS1956BNoLossWhenRoomWrong)

/-- 'knotcutter.LawS1956CList': WHATEVER THE INPUT: true; the input reads as it did. -/
def lawS1956CListSpec : ChangeSpec := { name := "lawS1956CList", fn := fun _ => fun
  | [d1, d2, d3, d4] => { results := [.lit (.bool true)], args := [d1, d2, d3, d4] }
  | _ => none }
def lawS1956CListRow : OpenClaim := { program := "ybulkanmgrr", sum := "32e0c299bdcacb18d54faf67a78cd7e696b7264bcf812ce34bd443f723794dd3", func := "example.com/knotcutter/knotcutter.LawS1956CList", spec := "lawS1956CList", recurses := true, apart := false }
def LawS1956CListSaid : Prop := lawS1956CListRow.holds Yba.pinned (OpenSpec.ofChange lawS1956CListSpec)

/-- ITS FALSE NEIGHBOUR: 'it returns false'. Refute it at one input. -/
def lawS1956CListWrong : ChangeSpec := { name := "lawS1956CList", fn := fun _ => fun
  | [d1, d2, d3, d4] => { results := [.lit (.bool false)], args := [d1, d2, d3, d4] }
  | _ => none }
def LawS1956CListWrongFalsely : Prop := lawS1956CListRow.holds Yba.pinned (OpenSpec.ofChange lawS1956CListWrong)

/-- 'knotcutter.LawS1956CTree': WHATEVER THE INPUT: true; the input reads as it did. -/
def lawS1956CTreeSpec : ChangeSpec := { name := "lawS1956CTree", fn := fun _ => fun
  | [d1, d2, d3, d4] => { results := [.lit (.bool true)], args := [d1, d2, d3, d4] }
  | _ => none }
def lawS1956CTreeRow : OpenClaim := { program := "ybulkanmgrr", sum := "32e0c299bdcacb18d54faf67a78cd7e696b7264bcf812ce34bd443f723794dd3", func := "example.com/knotcutter/knotcutter.LawS1956CTree", spec := "lawS1956CTree", recurses := true, apart := false }
def LawS1956CTreeSaid : Prop := lawS1956CTreeRow.holds Yba.pinned (OpenSpec.ofChange lawS1956CTreeSpec)

/-- ITS FALSE NEIGHBOUR: 'it returns false'. Refute it at one input. -/
def lawS1956CTreeWrong : ChangeSpec := { name := "lawS1956CTree", fn := fun _ => fun
  | [d1, d2, d3, d4] => { results := [.lit (.bool false)], args := [d1, d2, d3, d4] }
  | _ => none }
def LawS1956CTreeWrongFalsely : Prop := lawS1956CTreeRow.holds Yba.pinned (OpenSpec.ofChange lawS1956CTreeWrong)

end Rows
end Go.Proofs.YbulkanmgRR
