/- The numbers under which this dump holds sync.Mutex's functions and types, and that it holds them (Derived/Conc/MuLib.lean). -/
import Derived.Test.YbulkcvscProg
import Derived.Conc.MuLib
import Derived.KernelRfl
namespace Go.Proofs.Ybulkcvsc
abbrev Yba.muLink : Go.Conc.Locks.MuLink := { lock := 8, unlock := 7, ilock := 11, iunlock := 10, lockSlow := 19, unlockSlow := 18, disable := 12, enable := 13, acquire := 15, relMerge := 16, cas32 := 14, add32 := 17, tMutex := 40, tIMutex := 38, tPMutex := 60, tPIMutex := 61, tPI32 := 63, tUP := 65, tNoCopy := 35, tU32 := 36 }
theorem Yba.muLib : Go.Conc.Locks.MuLib Yba.prog Yba.muLink :=
  ⟨Yba.func8, Yba.func7, Yba.func11, Yba.func10, Yba.func12, Yba.func13, Yba.func15, Yba.func16, Yba.func14, Yba.func17, Yba.underlying38, Yba.runUnderlying38, Yba.sizeOf38, Yba.isAgg38, Yba.zeroValue38, Yba.underlying40, Yba.runUnderlying40, Yba.sizeOf40, Yba.isAgg40, Yba.zeroValue40, Yba.underlying60, Yba.runUnderlying60, Yba.sizeOf60, Yba.isAgg60, Yba.zeroValue60, Yba.underlying61, Yba.runUnderlying61, Yba.sizeOf61, Yba.isAgg61, Yba.zeroValue61, Yba.underlying63, Yba.runUnderlying63, Yba.sizeOf63, Yba.isAgg63, Yba.zeroValue63, Yba.underlying65, Yba.runUnderlying65, Yba.sizeOf65, Yba.isAgg65, Yba.zeroValue65, Yba.underlying35, Yba.runUnderlying35, Yba.sizeOf35, Yba.isAgg35, Yba.zeroValue35, Yba.underlying21, Yba.runUnderlying21, Yba.sizeOf21, Yba.isAgg21, Yba.zeroValue21, (by kernel_rfl)⟩
end Go.Proofs.Ybulkcvsc
