/-
  The numbers under which this dump holds sync.Mutex's functions and types.
-/
import Derived.Test.Qxb6630741aRows
import Derived.Conc.MuLone
import Derived.KernelRfl
namespace Go.Proofs.Qxb6630741a
abbrev muLink : Go.Conc.Locks.MuLink := { lock := 13, unlock := 14, ilock := 16, iunlock := 17, lockSlow := 22, unlockSlow := 25, disable := 18, enable := 20, acquire := 21, relMerge := 23, cas32 := 19, add32 := 24, tMutex := 39, tIMutex := 37, tPMutex := 44, tPIMutex := 45, tPI32 := 47, tUP := 49, tNoCopy := 34, tU32 := 35 }
theorem muLib : Go.Conc.Locks.MuLib Try.prog muLink :=
  ⟨Try.func13, Try.func14, Try.func16, Try.func17, Try.func18, Try.func20, Try.func21, Try.func23, Try.func19, Try.func24, Try.underlying37, Try.runUnderlying37, Try.sizeOf37, Try.isAgg37, Try.zeroValue37, Try.underlying39, Try.runUnderlying39, Try.sizeOf39, Try.isAgg39, Try.zeroValue39, Try.underlying44, Try.runUnderlying44, Try.sizeOf44, Try.isAgg44, Try.zeroValue44, Try.underlying45, Try.runUnderlying45, Try.sizeOf45, Try.isAgg45, Try.zeroValue45, Try.underlying47, Try.runUnderlying47, Try.sizeOf47, Try.isAgg47, Try.zeroValue47, Try.underlying49, Try.runUnderlying49, Try.sizeOf49, Try.isAgg49, Try.zeroValue49, Try.underlying34, Try.runUnderlying34, Try.sizeOf34, Try.isAgg34, Try.zeroValue34, Try.underlying21, Try.runUnderlying21, Try.sizeOf21, Try.isAgg21, Try.zeroValue21, (by kernel_rfl)⟩
end Go.Proofs.Qxb6630741a
