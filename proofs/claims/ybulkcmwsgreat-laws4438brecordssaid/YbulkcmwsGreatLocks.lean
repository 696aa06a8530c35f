/-
  The numbers under which this dump holds sync.Mutex's functions and types, and that it holds them (Derived/Conc/MuLib.lean): typed after the guide's StatsLocks.lean.
-/
import Derived.Test.YbulkcmwsGreatProg
import Derived.Conc.MuLone
import Derived.KernelRfl
namespace Go.Proofs
abbrev Ybaz.muLink : Go.Conc.Locks.MuLink := { lock := 7, unlock := 6, ilock := 10, iunlock := 9, lockSlow := 18, unlockSlow := 17, disable := 11, enable := 12, acquire := 14, relMerge := 15, cas32 := 13, add32 := 16, tMutex := 31, tIMutex := 29, tPMutex := 47, tPIMutex := 48, tPI32 := 50, tUP := 52, tNoCopy := 26, tU32 := 27 }
theorem Ybaz.muLib : Go.Conc.Locks.MuLib Ybaz.prog Ybaz.muLink :=
  ⟨Ybaz.func7, Ybaz.func6, Ybaz.func10, Ybaz.func9, Ybaz.func11, Ybaz.func12, Ybaz.func14, Ybaz.func15, Ybaz.func13, Ybaz.func16, Ybaz.underlying29, Ybaz.runUnderlying29, Ybaz.sizeOf29, Ybaz.isAgg29, Ybaz.zeroValue29, Ybaz.underlying31, Ybaz.runUnderlying31, Ybaz.sizeOf31, Ybaz.isAgg31, Ybaz.zeroValue31, Ybaz.underlying47, Ybaz.runUnderlying47, Ybaz.sizeOf47, Ybaz.isAgg47, Ybaz.zeroValue47, Ybaz.underlying48, Ybaz.runUnderlying48, Ybaz.sizeOf48, Ybaz.isAgg48, Ybaz.zeroValue48, Ybaz.underlying50, Ybaz.runUnderlying50, Ybaz.sizeOf50, Ybaz.isAgg50, Ybaz.zeroValue50, Ybaz.underlying52, Ybaz.runUnderlying52, Ybaz.sizeOf52, Ybaz.isAgg52, Ybaz.zeroValue52, Ybaz.underlying26, Ybaz.runUnderlying26, Ybaz.sizeOf26, Ybaz.isAgg26, Ybaz.zeroValue26, Ybaz.underlying21, Ybaz.runUnderlying21, Ybaz.sizeOf21, Ybaz.isAgg21, Ybaz.zeroValue21, (by kernel_rfl)⟩
end Go.Proofs
