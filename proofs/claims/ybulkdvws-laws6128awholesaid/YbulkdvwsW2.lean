import Derived.Test.YbulkdvwsW1
import Derived.Laws.StructEq
import Derived.StillTactics
namespace Go.Proofs.Ybulkdvws
open Go.RowKit

theorem eq26 (a b c d : Int) (w : World) : (Op.equalIn 10000 26 (.agg #[.int .u64 a, .int .u64 b]) (.agg #[.int .u64 c, .int .u64 d])).run Yba.prog w = .ok (a == c && b == d) w := by
  have u3 := Yba.underlying25
  have a3 := Yba.isAgg25
  have z3 := Yba.sizeOf25
  rw [show (10000 : Nat) = 9999 + 1 from rfl, Op.equalIn]
  simp only [Sem.run_bind, run_underlying Yba.underlying26, Result.andThen_ok]
  simp only [Std.Legacy.Range.forIn_eq_forIn_range', Std.Legacy.Range.size, Nat.sub_zero, Nat.add_sub_cancel, Nat.div_one, List.range'_succ, List.range'_zero, List.forIn_cons, List.forIn_nil]
  go_simp
  by_cases h1 : a = c <;> by_cases h2 : b = d <;> simp [h1, h2]

theorem eq26_same (a b : Int) (w : World) : (Op.equalIn 10000 26 (.agg #[.int .u64 a, .int .u64 b]) (.agg #[.int .u64 a, .int .u64 b])).run Yba.prog w = .ok true w := by
  rw [eq26]; simp

/-- The nine cells of the i-th instruction that is laid ahead of the call. -/
def preCells (i : Int) : List Value := [.int .u8 (i % 5), .int .i64 i, .int .i64 (-i), .int .i64 (3 * i), .int .i64 (i + 7), .slice none 0 0, .int .u64 0, .int .u64 0, .slice none 0 0]

theorem pre_any (i : Nat) (hi : i ≤ 20000) (w : World) :
    Calls Yba.prog 4 #[.int .i64 i] w fun e w' => e = .returned (.agg (preCells i).toArray) ∧ w' = w.alloc (.cells (preCells i).toArray 34) := by
  go_enter Yba.func4, Yba.ntmps4
  go_wp2
  exact bodyPost_ret (v := .agg (preCells i).toArray) (by simp [results, Yba.results4, go_sem, preCells]) rfl ⟨rfl, rfl⟩

/-- 'same' over two instructions that are one, with no set and no iterations. -/
theorem same_any (i : Nat) (w : World) :
    Calls Yba.prog 8 #[.agg (preCells i).toArray, .agg (preCells i).toArray] w fun e w' => e = .returned (.bool true) ∧ w' = (w.alloc (.cells (preCells i).toArray 34)).alloc (.cells (preCells i).toArray 34) := by
  have he := eq26_same
  unfold preCells
  go_enter Yba.func8, Yba.ntmps8
  go_wp2
  go_ret
  exact ⟨rfl, rfl⟩
end Go.Proofs.Ybulkdvws
