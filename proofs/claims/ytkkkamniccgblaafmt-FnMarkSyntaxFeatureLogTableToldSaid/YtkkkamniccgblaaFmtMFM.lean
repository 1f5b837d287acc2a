/- Proved here: this program holds sync.Mutex's functions and types under these numbers. No condition. -/
import Derived.Test.YtkkkamniccgblaaFmtProg
import Derived.Conc.RwLib
import Derived.Conc.MuData
import Derived.Conc.MuLone
import Derived.KernelRfl
namespace Go.Proofs.YtkkkamniccgblaaFmt
abbrev muLink : Go.Conc.Locks.MuLink := { lock := 22, unlock := 23, ilock := 30, iunlock := 31, lockSlow := 38, unlockSlow := 41, disable := 34, enable := 36, acquire := 37, relMerge := 39, cas32 := 35, add32 := 40, tMutex := 195, tIMutex := 193, tPMutex := 201, tPIMutex := 208, tPI32 := 210, tUP := 212, tNoCopy := 191, tU32 := 42 }
theorem muLib : Go.Conc.Locks.MuLib Tryf.prog muLink :=
  ⟨Tryf.func22, Tryf.func23, Tryf.func30, Tryf.func31, Tryf.func34, Tryf.func36, Tryf.func37, Tryf.func39, Tryf.func35, Tryf.func40, Tryf.underlying193, Tryf.runUnderlying193, Tryf.sizeOf193, Tryf.isAgg193, Tryf.zeroValue193, Tryf.underlying195, Tryf.runUnderlying195, Tryf.sizeOf195, Tryf.isAgg195, Tryf.zeroValue195, Tryf.underlying201, Tryf.runUnderlying201, Tryf.sizeOf201, Tryf.isAgg201, Tryf.zeroValue201, Tryf.underlying208, Tryf.runUnderlying208, Tryf.sizeOf208, Tryf.isAgg208, Tryf.zeroValue208, Tryf.underlying210, Tryf.runUnderlying210, Tryf.sizeOf210, Tryf.isAgg210, Tryf.zeroValue210, Tryf.underlying212, Tryf.runUnderlying212, Tryf.sizeOf212, Tryf.isAgg212, Tryf.zeroValue212, Tryf.underlying191, Tryf.runUnderlying191, Tryf.sizeOf191, Tryf.isAgg191, Tryf.zeroValue191, Tryf.underlying21, Tryf.runUnderlying21, Tryf.sizeOf21, Tryf.isAgg21, Tryf.zeroValue21, (by kernel_rfl)⟩
end Go.Proofs.YtkkkamniccgblaaFmt
