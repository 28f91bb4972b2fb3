import Derived.Test.YbulkanmgRRChecked
import Derived.Conc.MuLone
import Derived.KernelRfl
/-! The numbers under which this dump holds the library's mutex, and that it holds it. -/
set_option linter.unusedVariables false
set_option linter.unusedSimpArgs false
namespace Go.Proofs.YbulkanmgRR

abbrev muLink : Go.Conc.Locks.MuLink := { lock := 20, unlock := 21, ilock := 26, iunlock := 27, lockSlow := 36, unlockSlow := 39, disable := 32, enable := 34, acquire := 35, relMerge := 37, cas32 := 33, add32 := 38, tMutex := 44, tIMutex := 42, tPMutex := 125, tPIMutex := 130, tPI32 := 132, tUP := 28, tNoCopy := 27, tU32 := 33 }
theorem muLib : Go.Conc.Locks.MuLib Yba.prog muLink :=
  ⟨Yba.func20, Yba.func21, Yba.func26, Yba.func27, Yba.func32, Yba.func34, Yba.func35, Yba.func37, Yba.func33, Yba.func38,
   Yba.underlying42, Yba.runUnderlying42, Yba.sizeOf42, Yba.isAgg42, Yba.zeroValue42,
   Yba.underlying44, Yba.runUnderlying44, Yba.sizeOf44, Yba.isAgg44, Yba.zeroValue44,
   Yba.underlying125, Yba.runUnderlying125, Yba.sizeOf125, Yba.isAgg125, Yba.zeroValue125,
   Yba.underlying130, Yba.runUnderlying130, Yba.sizeOf130, Yba.isAgg130, Yba.zeroValue130,
   Yba.underlying132, Yba.runUnderlying132, Yba.sizeOf132, Yba.isAgg132, Yba.zeroValue132,
   Yba.underlying28, Yba.runUnderlying28, Yba.sizeOf28, Yba.isAgg28, Yba.zeroValue28,
   Yba.underlying27, Yba.runUnderlying27, Yba.sizeOf27, Yba.isAgg27, Yba.zeroValue27,
   Yba.underlying21, Yba.runUnderlying21, Yba.sizeOf21, Yba.isAgg21, Yba.zeroValue21, (by kernel_rfl)⟩
end Go.Proofs.YbulkanmgRR
