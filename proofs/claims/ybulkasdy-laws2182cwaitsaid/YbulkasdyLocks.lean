/- The numbers under which this dump holds sync.Mutex. -/
import Derived.Test.YbulkasdyProg
import Derived.Conc.RwLib
import Derived.KernelRfl
namespace Go.Proofs
abbrev Yba.muLink : Go.Conc.Locks.MuLink := { lock := 16, unlock := 12, ilock := 24, iunlock := 22, lockSlow := 35, unlockSlow := 34, disable := 28, enable := 29, acquire := 31, relMerge := 32, cas32 := 30, add32 := 33, tMutex := 39, tIMutex := 37, tPMutex := 85, tPIMutex := 97, tPI32 := 77, tUP := 100, tNoCopy := 34, tU32 := 35 }
theorem Yba.muLib : Go.Conc.Locks.MuLib Yba.prog Yba.muLink :=
  ⟨Yba.func16, Yba.func12, Yba.func24, Yba.func22, Yba.func28, Yba.func29, Yba.func31, Yba.func32, Yba.func30, Yba.func33, Yba.underlying37, Yba.runUnderlying37, Yba.sizeOf37, Yba.isAgg37, Yba.zeroValue37, Yba.underlying39, Yba.runUnderlying39, Yba.sizeOf39, Yba.isAgg39, Yba.zeroValue39, Yba.underlying85, Yba.runUnderlying85, Yba.sizeOf85, Yba.isAgg85, Yba.zeroValue85, Yba.underlying97, Yba.runUnderlying97, Yba.sizeOf97, Yba.isAgg97, Yba.zeroValue97, Yba.underlying77, Yba.runUnderlying77, Yba.sizeOf77, Yba.isAgg77, Yba.zeroValue77, Yba.underlying100, Yba.runUnderlying100, Yba.sizeOf100, Yba.isAgg100, Yba.zeroValue100, Yba.underlying34, Yba.runUnderlying34, Yba.sizeOf34, Yba.isAgg34, Yba.zeroValue34, Yba.underlying21, Yba.runUnderlying21, Yba.sizeOf21, Yba.isAgg21, Yba.zeroValue21, (by kernel_rfl)⟩
end Go.Proofs
