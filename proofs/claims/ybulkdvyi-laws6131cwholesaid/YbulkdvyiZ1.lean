import Derived.Test.YbulkdvyiRows
import Derived.Conc.RwLib
import Derived.Conc.MuLone
import Derived.KernelRfl
import Derived.WalkKit
import Derived.WalkSpells
import Derived.WalkLawsBesides
import Derived.Deep.QuietTactic
import Derived.BigQuiet
import Derived.Defers
namespace Go.Proofs.Ybulkdvyi
open Go.RowKit Go.MuLone

theorem hide' {p : Prop} (h : p) : Hid p := h

/-- The numbers under which this dump holds sync.Mutex's functions and types. -/
abbrev muLink : Go.Conc.Locks.MuLink := { lock := 9, unlock := 8, ilock := 13, iunlock := 12, lockSlow := 21, unlockSlow := 20, disable := 14, enable := 15, acquire := 17, relMerge := 18, cas32 := 16, add32 := 19, tMutex := 39, tIMutex := 37, tPMutex := 53, tPIMutex := 54, tPI32 := 56, tUP := 58, tNoCopy := 34, tU32 := 35 }
theorem muLib : Go.Conc.Locks.MuLib Yba.prog muLink :=
  ⟨Yba.func9, Yba.func8, Yba.func13, Yba.func12, Yba.func14, Yba.func15, Yba.func17, Yba.func18, Yba.func16, Yba.func19, Yba.underlying37, Yba.runUnderlying37, Yba.sizeOf37, Yba.isAgg37, Yba.zeroValue37, Yba.underlying39, Yba.runUnderlying39, Yba.sizeOf39, Yba.isAgg39, Yba.zeroValue39, Yba.underlying53, Yba.runUnderlying53, Yba.sizeOf53, Yba.isAgg53, Yba.zeroValue53, Yba.underlying54, Yba.runUnderlying54, Yba.sizeOf54, Yba.isAgg54, Yba.zeroValue54, Yba.underlying56, Yba.runUnderlying56, Yba.sizeOf56, Yba.isAgg56, Yba.zeroValue56, Yba.underlying58, Yba.runUnderlying58, Yba.sizeOf58, Yba.isAgg58, Yba.zeroValue58, Yba.underlying34, Yba.runUnderlying34, Yba.sizeOf34, Yba.isAgg34, Yba.zeroValue34, Yba.underlying21, Yba.runUnderlying21, Yba.sizeOf21, Yba.isAgg21, Yba.zeroValue21, (by kernel_rfl)⟩

end Go.Proofs.Ybulkdvyi
