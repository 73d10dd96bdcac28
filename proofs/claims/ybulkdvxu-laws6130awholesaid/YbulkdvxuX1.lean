import Derived.Test.YbulkdvxuRows
import Derived.WalkKit
import Derived.WalkSpells
import Derived.WalkLawsBesides
import Derived.Deep.QuietTactic
import Derived.BigQuiet
import Derived.Laws.StructEq
import Derived.StillTactics
namespace Go.Proofs.Ybulkdvxu
open Go.RowKit

theorem hide' {p : Prop} (h : p) : Hid p := h

/-- A row of one-cell elements that a slice leads to; nothing is asked where it is empty. -/
def CA (w : World) (a : Option Addr) (n : Nat) (f : Nat → Value) : Prop :=
  n = 0 ∨ ∃ b off, a = some ⟨b, off, none⟩ ∧ ∀ j, j < n → w.cell? ⟨b, off + j, none⟩ = some (f j)

theorem CA.kept {w w' : World} {a : Option Addr} {n : Nat} {f : Nat → Value} (h : CA w a n f) (hb : Below w.heap.size w w') : CA w' a n f := by
  rcases h with h | ⟨b, off, rfl, hc⟩
  · exact .inl h
  · exact .inr ⟨b, off, rfl, fun j hj => (hb.cell (p := ⟨b, off + j, none⟩) (World.block_lt_of_cell? w _ (hc j hj))).trans (hc j hj)⟩
theorem CA.drewN {w : World} {a : Option Addr} {n : Nat} {f : Nat → Value} (h : CA w a n f) (q : Nat) : CA (w.drewN q) a n f := h
theorem CA.alloc {w : World} {a : Option Addr} {n : Nat} {f : Nat → Value} (h : CA w a n f) (o : Obj) : CA (w.alloc o) a n f := h.kept ((Below.refl _ _).alloc (Nat.le_refl _) _)

/-! ### slices.Equal, where the two are equal -/
theorem eqB_zero (a1 a2 : Option Addr) (c1 c2 : Nat) (w : World) :
    Calls Yba.prog 9 #[.slice a1 0 c1, .slice a2 0 c2] w fun e w' => e = .returned (.bool true) ∧ ∃ q, w' = w.drewN q := by
  go_enter Yba.func9, Yba.ntmps9
  go_wp2
  refine wp_loop_rounds 1 ?_
  rw [rounds_succ]
  go_wp2
  go_ret
  exact ⟨rfl, 0, rfl⟩
theorem eqB_some (b1 o1 b2 o2 n c1 c2 : Nat) (B : Nat → Bool) (w : World) (hn : n ≤ 1048576) (h1 : ∀ j, j < n → w.cell? ⟨b1, o1 + j, none⟩ = some (.bool (B j))) (h2 : ∀ j, j < n → w.cell? ⟨b2, o2 + j, none⟩ = some (.bool (B j))) :
    Calls Yba.prog 9 #[.slice (some ⟨b1, o1, none⟩) n c1, .slice (some ⟨b2, o2, none⟩) n c2] w fun e w' => e = .returned (.bool true) ∧ ∃ q, w' = w.drewN q := by
  go_enter Yba.func9, Yba.ntmps9
  go_wp2
  go_loopw [13] (fun i wr => ∃ k q : Nat, k ≤ n ∧ i = .int .i64 k ∧ wr = w.drewN q) (fun i _ => n - (intOf i).toNat)
  case atStart => exact ⟨0, 0, Nat.zero_le _, rfl, rfl⟩
  case round =>
    obtain ⟨k, q, hk, rfl, rfl⟩ := hrel
    by_cases hlt : k < n
    · have g1 := h1 k hlt
      have g2 := h2 k hlt
      generalize B k = bv at g1 g2
      clear h1 h2
      have hlt' : (k : Int) < (n : Int) := by omega
      go_wp2
      go_quiet (fail)
      go_wp2
      go_roundw
      case rel => exact ⟨k + 1, q + nq, by omega, by go_num, by simp [World.drewN]⟩
      case measure => simp [intOf]; omega
    · go_wp2
      go_ret
      exact ⟨rfl, q, rfl⟩
theorem eqB {a1 a2 : Option Addr} {n : Nat} {B : Nat → Bool} {w : World} (c1 c2 : Nat) (hn : n ≤ 1048576) (h1 : CA w a1 n fun j => .bool (B j)) (h2 : CA w a2 n fun j => .bool (B j)) :
    Calls Yba.prog 9 #[.slice a1 n c1, .slice a2 n c2] w fun e w' => e = .returned (.bool true) ∧ ∃ q, w' = w.drewN q := by
  by_cases h0 : n = 0
  · subst h0; exact eqB_zero _ _ _ _ _
  · rcases h1 with h1 | ⟨b1, o1, rfl, h1⟩
    · exact absurd h1 h0
    rcases h2 with h2 | ⟨b2, o2, rfl, h2⟩
    · exact absurd h2 h0
    exact eqB_some b1 o1 b2 o2 n c1 c2 B w hn h1 h2

theorem eqI_zero (a1 a2 : Option Addr) (c1 c2 : Nat) (w : World) :
    Calls Yba.prog 11 #[.slice a1 0 c1, .slice a2 0 c2] w fun e w' => e = .returned (.bool true) ∧ ∃ q, w' = w.drewN q := by
  go_enter Yba.func11, Yba.ntmps11
  go_wp2
  refine wp_loop_rounds 1 ?_
  rw [rounds_succ]
  go_wp2
  go_ret
  exact ⟨rfl, 0, rfl⟩
theorem eqI_some (b1 o1 b2 o2 n c1 c2 : Nat) (T : Nat → Int) (w : World) (hn : n ≤ 1048576) (h1 : ∀ j, j < n → w.cell? ⟨b1, o1 + j, none⟩ = some (.int .i32 (T j))) (h2 : ∀ j, j < n → w.cell? ⟨b2, o2 + j, none⟩ = some (.int .i32 (T j))) :
    Calls Yba.prog 11 #[.slice (some ⟨b1, o1, none⟩) n c1, .slice (some ⟨b2, o2, none⟩) n c2] w fun e w' => e = .returned (.bool true) ∧ ∃ q, w' = w.drewN q := by
  go_enter Yba.func11, Yba.ntmps11
  go_wp2
  go_loopw [13] (fun i wr => ∃ k q : Nat, k ≤ n ∧ i = .int .i64 k ∧ wr = w.drewN q) (fun i _ => n - (intOf i).toNat)
  case atStart => exact ⟨0, 0, Nat.zero_le _, rfl, rfl⟩
  case round =>
    obtain ⟨k, q, hk, rfl, rfl⟩ := hrel
    by_cases hlt : k < n
    · have g1 := h1 k hlt
      have g2 := h2 k hlt
      generalize T k = bv at g1 g2
      clear h1 h2
      have hlt' : (k : Int) < (n : Int) := by omega
      go_wp2
      go_quiet (fail)
      go_wp2
      go_roundw
      case rel => exact ⟨k + 1, q + nq, by omega, by go_num, by simp [World.drewN]⟩
      case measure => simp [intOf]; omega
    · go_wp2
      go_ret
      exact ⟨rfl, q, rfl⟩
theorem eqI {a1 a2 : Option Addr} {n : Nat} {T : Nat → Int} {w : World} (c1 c2 : Nat) (hn : n ≤ 1048576) (h1 : CA w a1 n fun j => .int .i32 (T j)) (h2 : CA w a2 n fun j => .int .i32 (T j)) :
    Calls Yba.prog 11 #[.slice a1 n c1, .slice a2 n c2] w fun e w' => e = .returned (.bool true) ∧ ∃ q, w' = w.drewN q := by
  by_cases h0 : n = 0
  · subst h0; exact eqI_zero _ _ _ _ _
  · rcases h1 with h1 | ⟨b1, o1, rfl, h1⟩
    · exact absurd h1 h0
    rcases h2 with h2 | ⟨b2, o2, rfl, h2⟩
    · exact absurd h2 h0
    exact eqI_some b1 o1 b2 o2 n c1 c2 T w hn h1 h2

/-- A row of processes: four cells each. -/
def PA (w : World) (a : Option Addr) (n : Nat) (C F : Nat → Int) : Prop :=
  n = 0 ∨ ∃ b off, a = some ⟨b, off, none⟩ ∧ ∀ j, j < n → w.cell? ⟨b, off + j * 4, none⟩ = some (.int .u8 0) ∧ w.cell? ⟨b, off + j * 4 + 1, none⟩ = some (.int .i32 0) ∧ w.cell? ⟨b, off + j * 4 + 2, none⟩ = some (.int .i32 (C j)) ∧ w.cell? ⟨b, off + j * 4 + 3, none⟩ = some (.int .i64 (F j))
theorem PA.kept {w w' : World} {a : Option Addr} {n : Nat} {C F : Nat → Int} (h : PA w a n C F) (hb : Below w.heap.size w w') : PA w' a n C F := by
  rcases h with h | ⟨b, off, rfl, hc⟩
  · exact .inl h
  · refine .inr ⟨b, off, rfl, fun j hj => ?_⟩
    have hlt : b < w.heap.size := World.block_lt_of_cell? w _ (hc j hj).1
    obtain ⟨h0, h1, h2, h3⟩ := hc j hj
    exact ⟨(hb.cell (p := ⟨b, _, none⟩) hlt).trans h0, (hb.cell (p := ⟨b, _, none⟩) hlt).trans h1, (hb.cell (p := ⟨b, _, none⟩) hlt).trans h2, (hb.cell (p := ⟨b, _, none⟩) hlt).trans h3⟩
theorem PA.drewN {w : World} {a : Option Addr} {n : Nat} {C F : Nat → Int} (h : PA w a n C F) (q : Nat) : PA (w.drewN q) a n C F := h

theorem eq29 (a b c d : Int) (w : World) : (Op.equalIn 10000 29 (.agg #[.int .u8 a, .int .i32 b, .int .i32 c, .int .i64 d]) (.agg #[.int .u8 a, .int .i32 b, .int .i32 c, .int .i64 d])).run Yba.prog w = .ok true w := by
  have hS : Yba.prog.underlying 29 = some (.struct (Yba.prog.fieldsOf 29)) := by kernel_rfl
  have hp : Yba.prog.stoodInHeld 29 = false := by kernel_rfl
  rw [show (10000 : Nat) = 9999 + 1 from rfl, run_equalIn_agg w 9999 29 _ _ hS hp]
  have u27 := Yba.underlying27
  have a27 := Yba.isAgg27
  have z27 := Yba.sizeOf27
  have u21 := Yba.underlying21
  have a21 := Yba.isAgg21
  have z21 := Yba.sizeOf21
  have u3 := Yba.underlying3
  have a3 := Yba.isAgg3
  have z3 := Yba.sizeOf3
  simp only [Program.fieldsOf, Yba.underlying29]
  go_simp
end Go.Proofs.Ybulkdvxu
