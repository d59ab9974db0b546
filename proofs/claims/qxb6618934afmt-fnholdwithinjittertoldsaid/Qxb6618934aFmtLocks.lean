/-
  The numbers under which this dump holds sync.Mutex's functions and types (typed by hand after the guide's worked text: the tool that prints it does not lie here).
-/
import Derived.Test.Qxb6618934aFmtProg
import Derived.Conc.RwLib
import Derived.Conc.MuData
import Derived.KernelRfl
namespace Go.Proofs
abbrev Tryf.muLink : Go.Conc.Locks.MuLink := { lock := 14, unlock := 15, ilock := 17, iunlock := 18, lockSlow := 24, unlockSlow := 27, disable := 20, enable := 22, acquire := 23, relMerge := 25, cas32 := 21, add32 := 26, tMutex := 48, tIMutex := 46, tPMutex := 60, tPIMutex := 62, tPI32 := 64, tUP := 66, tNoCopy := 43, tU32 := 44 }
theorem Tryf.muLib : Go.Conc.Locks.MuLib Tryf.prog Tryf.muLink :=
  ⟨Tryf.func14, Tryf.func15, Tryf.func17, Tryf.func18, Tryf.func20, Tryf.func22, Tryf.func23, Tryf.func25, Tryf.func21, Tryf.func26, Tryf.underlying46, Tryf.runUnderlying46, Tryf.sizeOf46, Tryf.isAgg46, Tryf.zeroValue46, Tryf.underlying48, Tryf.runUnderlying48, Tryf.sizeOf48, Tryf.isAgg48, Tryf.zeroValue48, Tryf.underlying60, Tryf.runUnderlying60, Tryf.sizeOf60, Tryf.isAgg60, Tryf.zeroValue60, Tryf.underlying62, Tryf.runUnderlying62, Tryf.sizeOf62, Tryf.isAgg62, Tryf.zeroValue62, Tryf.underlying64, Tryf.runUnderlying64, Tryf.sizeOf64, Tryf.isAgg64, Tryf.zeroValue64, Tryf.underlying66, Tryf.runUnderlying66, Tryf.sizeOf66, Tryf.isAgg66, Tryf.zeroValue66, Tryf.underlying43, Tryf.runUnderlying43, Tryf.sizeOf43, Tryf.isAgg43, Tryf.zeroValue43, Tryf.underlying21, Tryf.runUnderlying21, Tryf.sizeOf21, Tryf.isAgg21, Tryf.zeroValue21, (by kernel_rfl)⟩
end Go.Proofs
