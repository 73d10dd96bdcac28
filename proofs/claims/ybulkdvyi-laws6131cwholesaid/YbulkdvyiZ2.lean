import Derived.Test.YbulkdvyiZ1
import Derived.Deep.RegionWith
namespace Go.Proofs.Ybulkdvyi
open Go.RowKit Go.MuLone

/-- A pointer to the lock's inner struct seen as a bare address: the same address. -/
theorem conv_addr (a : Addr) (v : Value) (w : World) (hc : w.cell? a = some v) : (convert 54 58 (.pointer (some a))).run Yba.prog w = .ok (.pointer (some a)) w := by
  obtain ⟨e, n, hsh, hlt, hsp⟩ := World.shape?_of_cell? hc
  have hge : ¬ (n ≤ a.off) := by omega
  have z37 := Yba.sizeOf37
  simp only [convert, Sem.run_bind, run_underlying Yba.underlying54, run_underlying Yba.underlying58, Result.andThen_ok]
  show Sem.run Yba.prog (bind (underlying 54) _) w = _
  simp only [Sem.run_bind, run_underlying Yba.underlying54, run_underlying Yba.underlying58, Result.andThen_ok]
  simp [Conv.seenAt, viewAt, cellsIn, z37, hsh, hge, Result.andThen]

set_option maxHeartbeats 800000 in
theorem itry (a : Addr) (w : World) (hc : w.cell? a = some (.int .i32 0)) (hz : w.frozen? a = false) :
    Calls Yba.prog 11 #[.pointer (some a)] w fun e w' => e = .returned (.bool true) ∧ w' = w.setCell a (.int .i32 1) := by
  have hd : ∀ w, (callFunc 14 #[]).run Yba.prog w = .ok (.value (.tuple #[])) w := disable muLib
  have he : ∀ w, (callFunc 15 #[]).run Yba.prog w = .ok (.value (.tuple #[])) w := enable muLib
  have ha : ∀ a w, (callFunc 17 #[.pointer (some a)]).run Yba.prog w = .ok (.value (.tuple #[])) w := acquire muLib
  have hcas : (callFunc 16 #[.pointer (some a), .int .i32 0, .int .i32 1]).run Yba.prog w = .ok (.value (.bool true)) (w.setCell a (.int .i32 1)) := run_call_cas_hit (P := Yba.prog) muLib.f_cas32 (by kernel_rfl) (by kernel_rfl) (by kernel_rfl) .i32 (by kernel_rfl) (y := 1) hc hz
  have hc' : (w.setCell a (.int .i32 1)).cell? a = some (.int .i32 1) := by simp [go_sem, hc]
  have hcv := conv_addr a _ _ hc'
  have b1 : bits .and .i32 0 5 = 0 := by decide
  have b2 : bits .or .i32 0 1 = 1 := by decide
  go_enter Yba.func11, Yba.ntmps11
  go_wp2
  go_ret
  exact ⟨rfl, rfl⟩
theorem try_free (a : Addr) (w : World) (hc : w.cell? a = some (.int .i32 0)) (hz : w.frozen? a = false) :
    Calls Yba.prog 7 #[.pointer (some a)] w fun e w' => e = .returned (.bool true) ∧ w' = w.setCell a (.int .i32 1) := by
  go_enter Yba.func7, Yba.ntmps7
  go_wp2_with fail
  refine (itry a w hc hz).mono ?_
  rintro e w' ⟨rfl, rfl⟩
  go_wp2_with fail
  go_ret
  exact ⟨rfl, rfl⟩
end Go.Proofs.Ybulkdvyi
