/-
  The numbers under which this dump holds sync.Mutex's functions and types, and that it holds them.
-/
import Derived.Test.Qxb6604607aRows
import Derived.Conc.MuLone
import Derived.KernelRfl
namespace Go.Proofs.Qxb6604607a
abbrev muLink : Go.Conc.Locks.MuLink := { lock := 12, unlock := 13, ilock := 15, iunlock := 16, lockSlow := 23, unlockSlow := 26, disable := 19, enable := 21, acquire := 22, relMerge := 24, cas32 := 20, add32 := 25, tMutex := 34, tIMutex := 32, tPMutex := 47, tPIMutex := 50, tPI32 := 52, tUP := 54, tNoCopy := 29, tU32 := 30 }
theorem muLib : Go.Conc.Locks.MuLib Try.prog muLink :=
  ⟨Try.func12, Try.func13, Try.func15, Try.func16, Try.func19, Try.func21, Try.func22, Try.func24, Try.func20, Try.func25, Try.underlying32, Try.runUnderlying32, Try.sizeOf32, Try.isAgg32, Try.zeroValue32, Try.underlying34, Try.runUnderlying34, Try.sizeOf34, Try.isAgg34, Try.zeroValue34, Try.underlying47, Try.runUnderlying47, Try.sizeOf47, Try.isAgg47, Try.zeroValue47, Try.underlying50, Try.runUnderlying50, Try.sizeOf50, Try.isAgg50, Try.zeroValue50, Try.underlying52, Try.runUnderlying52, Try.sizeOf52, Try.isAgg52, Try.zeroValue52, Try.underlying54, Try.runUnderlying54, Try.sizeOf54, Try.isAgg54, Try.zeroValue54, Try.underlying29, Try.runUnderlying29, Try.sizeOf29, Try.isAgg29, Try.zeroValue29, Try.underlying21, Try.runUnderlying21, Try.sizeOf21, Try.isAgg21, Try.zeroValue21, (by kernel_rfl)⟩
end Go.Proofs.Qxb6604607a
