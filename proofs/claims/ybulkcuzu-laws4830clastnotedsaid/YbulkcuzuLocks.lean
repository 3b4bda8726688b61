/- The numbers under which this dump holds sync.Mutex, and that it holds it: typed by hand after the guide's worked RegLocks.lean (the tool that prints it is not here); the kernel checks every number. -/
import Derived.Test.YbulkcuzuProg
import Derived.Conc.RwLib
import Derived.Conc.MuData
import Derived.KernelRfl
namespace Go.Proofs
abbrev Yba.muLink : Go.Conc.Locks.MuLink := { lock := 8, unlock := 9, ilock := 10, iunlock := 11, lockSlow := 16, unlockSlow := 19, disable := 12, enable := 14, acquire := 15, relMerge := 17, cas32 := 13, add32 := 18, tMutex := 33, tIMutex := 31, tPMutex := 43, tPIMutex := 44, tPI32 := 46, tUP := 48, tNoCopy := 28, tU32 := 29 }
theorem Yba.muLib : Go.Conc.Locks.MuLib Yba.prog Yba.muLink :=
  ⟨Yba.func8, Yba.func9, Yba.func10, Yba.func11, Yba.func12, Yba.func14, Yba.func15, Yba.func17, Yba.func13, Yba.func18, Yba.underlying31, Yba.runUnderlying31, Yba.sizeOf31, Yba.isAgg31, Yba.zeroValue31, Yba.underlying33, Yba.runUnderlying33, Yba.sizeOf33, Yba.isAgg33, Yba.zeroValue33, Yba.underlying43, Yba.runUnderlying43, Yba.sizeOf43, Yba.isAgg43, Yba.zeroValue43, Yba.underlying44, Yba.runUnderlying44, Yba.sizeOf44, Yba.isAgg44, Yba.zeroValue44, Yba.underlying46, Yba.runUnderlying46, Yba.sizeOf46, Yba.isAgg46, Yba.zeroValue46, Yba.underlying48, Yba.runUnderlying48, Yba.sizeOf48, Yba.isAgg48, Yba.zeroValue48, Yba.underlying28, Yba.runUnderlying28, Yba.sizeOf28, Yba.isAgg28, Yba.zeroValue28, Yba.underlying21, Yba.runUnderlying21, Yba.sizeOf21, Yba.isAgg21, Yba.zeroValue21, (by kernel_rfl)⟩
end Go.Proofs
