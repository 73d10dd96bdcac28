import Derived.Test.YbulkdvwsRows
import Derived.WalkKit
import Derived.WalkSpells
import Derived.WalkLawsBesides
import Derived.Deep.QuietTactic
import Derived.BigQuiet
namespace Go.Proofs.Ybulkdvws
open Go.RowKit

/-- What a slice of numbers is to the walk: nothing is asked where it is empty. -/
def IntsAt (w : World) (a : Option Addr) (n : Nat) (zs : List Int) : Prop :=
  zs.length = n ∧ (n = 0 ∨ ∃ b off, a = some ⟨b, off, none⟩ ∧ ∀ j, j < n → w.cell? ⟨b, off + j, none⟩ = some (.int .i64 (zs.getD j 0)))

theorem ints_zero (a1 a2 : Option Addr) (c1 c2 : Nat) (w : World) :
    Calls Yba.prog 6 #[.slice a1 0 c1, .slice a2 0 c2] w fun e w' => e = .returned (.bool true) ∧ ∃ q, w' = w.drewN q := by
  go_enter Yba.func6, Yba.ntmps6
  go_wp2
  refine wp_loop_rounds 1 ?_
  rw [rounds_succ]
  go_wp2
  go_ret
  exact ⟨rfl, 0, rfl⟩

theorem ints_some (b1 o1 b2 o2 n c1 c2 : Nat) (zs : List Int) (w : World) (hn : n ≤ 1048576) (h1 : ∀ j, j < n → w.cell? ⟨b1, o1 + j, none⟩ = some (.int .i64 (zs.getD j 0))) (h2 : ∀ j, j < n → w.cell? ⟨b2, o2 + j, none⟩ = some (.int .i64 (zs.getD j 0))) :
    Calls Yba.prog 6 #[.slice (some ⟨b1, o1, none⟩) n c1, .slice (some ⟨b2, o2, none⟩) n c2] w fun e w' => e = .returned (.bool true) ∧ ∃ q, w' = w.drewN q := by
  go_enter Yba.func6, Yba.ntmps6
  go_wp2
  go_loopw [5] (fun i wr => ∃ k q : Nat, k ≤ n ∧ i = .int .i64 k ∧ wr = w.drewN q) (fun i _ => n - (intOf i).toNat)
  case atStart => exact ⟨0, 0, Nat.zero_le _, rfl, rfl⟩
  case round =>
    obtain ⟨k, q, hk, rfl, rfl⟩ := hrel
    by_cases hlt : k < n
    · have g1 := h1 k hlt
      have g2 := h2 k hlt
      clear h1 h2
      have hlt' : (k : Int) < (n : Int) := by omega
      go_wp2
      go_quiet (fail)
      go_wp2
      go_roundw
      case rel => exact ⟨k + 1, q + nq, by omega, by go_num, by simp [World.drewN]⟩
      case measure => simp [intOf]; omega
    · go_wp2
      go_ret
      exact ⟨rfl, q, rfl⟩

theorem set_zero (a1 a2 : Option Addr) (c1 c2 : Nat) (w : World) :
    Calls Yba.prog 7 #[.slice a1 0 c1, .slice a2 0 c2] w fun e w' => e = .returned (.bool true) ∧ ∃ q, w' = w.drewN q := by
  go_enter Yba.func7, Yba.ntmps7
  go_wp2
  refine wp_loop_rounds 1 ?_
  rw [rounds_succ]
  go_wp2
  go_ret
  exact ⟨rfl, 0, rfl⟩

theorem set_some (b1 o1 b2 o2 n c1 c2 : Nat) (ls hs : List Int) (w : World) (hn : n ≤ 1048576)
    (h1 : ∀ j, j < n → w.cell? ⟨b1, o1 + j * 2, none⟩ = some (.int .u16 (ls.getD j 0))) (h1' : ∀ j, j < n → w.cell? ⟨b1, o1 + j * 2 + 1, none⟩ = some (.int .u16 (hs.getD j 0)))
    (h2 : ∀ j, j < n → w.cell? ⟨b2, o2 + j * 2, none⟩ = some (.int .u16 (ls.getD j 0))) (h2' : ∀ j, j < n → w.cell? ⟨b2, o2 + j * 2 + 1, none⟩ = some (.int .u16 (hs.getD j 0))) :
    Calls Yba.prog 7 #[.slice (some ⟨b1, o1, none⟩) n c1, .slice (some ⟨b2, o2, none⟩) n c2] w fun e w' => e = .returned (.bool true) ∧ ∃ q, w' = w.drewN q := by
  go_enter Yba.func7, Yba.ntmps7
  go_wp2
  go_loopw [5] (fun i wr => ∃ k q : Nat, k ≤ n ∧ i = .int .i64 k ∧ wr = w.drewN q) (fun i _ => n - (intOf i).toNat)
  case atStart => exact ⟨0, 0, Nat.zero_le _, rfl, rfl⟩
  case round =>
    obtain ⟨k, q, hk, rfl, rfl⟩ := hrel
    by_cases hlt : k < n
    · have g1 := h1 k hlt
      have g2 := h2 k hlt
      have g1' := h1' k hlt
      have g2' := h2' k hlt
      generalize ls.getD k 0 = lv at g1 g2
      generalize hs.getD k 0 = hv at g1' g2'
      clear h1 h2 h1' h2'
      have hlt' : (k : Int) < (n : Int) := by omega
      have e1 : (lv != lv) = false := by simp
      go_wp2
      go_quiet (fail)
      go_wp2
      go_roundw
      case rel => exact ⟨k + 1, q + nq, by omega, by go_num, by simp [World.drewN]⟩
      case measure => simp [intOf]; omega
    · go_wp2
      go_ret
      exact ⟨rfl, q, rfl⟩
end Go.Proofs.Ybulkdvws
