/-
  Seat b6613968a. The numbers under which this dump holds sync.Mutex's functions and types, and that it holds them (Derived/Conc/MuLib.lean): typed after the guide's chapter on locks. By an AI agent.
-/
import Derived.Test.Qxb6613968aProg
import Derived.Conc.RwLib
import Derived.Conc.MuData
import Derived.KernelRfl
namespace Go.Proofs
abbrev Try.muLink : Go.Conc.Locks.MuLink := { lock := 35, unlock := 36, ilock := 37, iunlock := 38, lockSlow := 43, unlockSlow := 46, disable := 39, enable := 41, acquire := 42, relMerge := 44, cas32 := 40, add32 := 45, tMutex := 70, tIMutex := 68, tPMutex := 78, tPIMutex := 79, tPI32 := 81, tUP := 83, tNoCopy := 65, tU32 := 66 }
theorem Try.muLib : Go.Conc.Locks.MuLib Try.prog Try.muLink :=
  ⟨Try.func35, Try.func36, Try.func37, Try.func38, Try.func39, Try.func41, Try.func42, Try.func44, Try.func40, Try.func45, Try.underlying68, Try.runUnderlying68, Try.sizeOf68, Try.isAgg68, Try.zeroValue68, Try.underlying70, Try.runUnderlying70, Try.sizeOf70, Try.isAgg70, Try.zeroValue70, Try.underlying78, Try.runUnderlying78, Try.sizeOf78, Try.isAgg78, Try.zeroValue78, Try.underlying79, Try.runUnderlying79, Try.sizeOf79, Try.isAgg79, Try.zeroValue79, Try.underlying81, Try.runUnderlying81, Try.sizeOf81, Try.isAgg81, Try.zeroValue81, Try.underlying83, Try.runUnderlying83, Try.sizeOf83, Try.isAgg83, Try.zeroValue83, Try.underlying65, Try.runUnderlying65, Try.sizeOf65, Try.isAgg65, Try.zeroValue65, Try.underlying21, Try.runUnderlying21, Try.sizeOf21, Try.isAgg21, Try.zeroValue21, (by kernel_rfl)⟩
end Go.Proofs
