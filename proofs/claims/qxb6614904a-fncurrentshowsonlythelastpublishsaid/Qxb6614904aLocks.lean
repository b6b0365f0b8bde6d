/-
  The numbers under which this dump holds sync.Mutex (typed by hand off ops.sh's print, in the shape of the kit's lock-link text), the kernel checks each.
-/
import Derived.Test.Qxb6614904aProg
import Derived.Conc.MuLone
import Derived.Conc.RwLib
import Derived.Conc.MuData
import Derived.KernelRfl
namespace Go.Proofs
abbrev Try.muLink : Go.Conc.Locks.MuLink := { lock := 21, unlock := 22, ilock := 33, iunlock := 34, lockSlow := 49, unlockSlow := 52, disable := 45, enable := 47, acquire := 48, relMerge := 50, cas32 := 46, add32 := 51, tMutex := 56, tIMutex := 54, tPMutex := 100, tPIMutex := 111, tPI32 := 113, tUP := 115, tNoCopy := 51, tU32 := 52 }
theorem Try.muLib : Go.Conc.Locks.MuLib Try.prog Try.muLink :=
  ⟨Try.func21, Try.func22, Try.func33, Try.func34, Try.func45, Try.func47, Try.func48, Try.func50, Try.func46, Try.func51, Try.underlying54, Try.runUnderlying54, Try.sizeOf54, Try.isAgg54, Try.zeroValue54, Try.underlying56, Try.runUnderlying56, Try.sizeOf56, Try.isAgg56, Try.zeroValue56, Try.underlying100, Try.runUnderlying100, Try.sizeOf100, Try.isAgg100, Try.zeroValue100, Try.underlying111, Try.runUnderlying111, Try.sizeOf111, Try.isAgg111, Try.zeroValue111, Try.underlying113, Try.runUnderlying113, Try.sizeOf113, Try.isAgg113, Try.zeroValue113, Try.underlying115, Try.runUnderlying115, Try.sizeOf115, Try.isAgg115, Try.zeroValue115, Try.underlying51, Try.runUnderlying51, Try.sizeOf51, Try.isAgg51, Try.zeroValue51, Try.underlying21, Try.runUnderlying21, Try.sizeOf21, Try.isAgg21, Try.zeroValue21, (by kernel_rfl)⟩
end Go.Proofs
