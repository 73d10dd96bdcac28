import Derived.Test.YbulkdvxuX1
namespace Go.Proofs.Ybulkdvxu
open Go.RowKit

theorem eqP_zero (a1 a2 : Option Addr) (c1 c2 : Nat) (w : World) :
    Calls Yba.prog 10 #[.slice a1 0 c1, .slice a2 0 c2] w fun e w' => e = .returned (.bool true) ∧ ∃ q, w' = w.drewN q := by
  go_enter Yba.func10, Yba.ntmps10
  go_wp2
  refine wp_loop_rounds 1 ?_
  rw [rounds_succ]
  go_wp2
  go_ret
  exact ⟨rfl, 0, rfl⟩
set_option maxHeartbeats 1000000 in
theorem eqP_some (b1 o1 b2 o2 n c1 c2 : Nat) (C F : Nat → Int) (w : World) (hn : n ≤ 1048576)
    (h1 : ∀ j, j < n → w.cell? ⟨b1, o1 + j * 4, none⟩ = some (.int .u8 0) ∧ w.cell? ⟨b1, o1 + j * 4 + 1, none⟩ = some (.int .i32 0) ∧ w.cell? ⟨b1, o1 + j * 4 + 2, none⟩ = some (.int .i32 (C j)) ∧ w.cell? ⟨b1, o1 + j * 4 + 3, none⟩ = some (.int .i64 (F j)))
    (h2 : ∀ j, j < n → w.cell? ⟨b2, o2 + j * 4, none⟩ = some (.int .u8 0) ∧ w.cell? ⟨b2, o2 + j * 4 + 1, none⟩ = some (.int .i32 0) ∧ w.cell? ⟨b2, o2 + j * 4 + 2, none⟩ = some (.int .i32 (C j)) ∧ w.cell? ⟨b2, o2 + j * 4 + 3, none⟩ = some (.int .i64 (F j))) :
    Calls Yba.prog 10 #[.slice (some ⟨b1, o1, none⟩) n c1, .slice (some ⟨b2, o2, none⟩) n c2] w fun e w' => e = .returned (.bool true) ∧ ∃ q, w' = w.drewN q := by
  have he := eq29
  go_enter Yba.func10, Yba.ntmps10
  go_wp2
  go_loopw [13] (fun i wr => ∃ k q : Nat, k ≤ n ∧ i = .int .i64 k ∧ wr = w.drewN q) (fun i _ => n - (intOf i).toNat)
  case atStart => exact ⟨0, 0, Nat.zero_le _, rfl, rfl⟩
  case round =>
    obtain ⟨k, q, hk, rfl, rfl⟩ := hrel
    by_cases hlt : k < n
    · obtain ⟨p0, p1, p2, p3⟩ := h1 k hlt
      obtain ⟨q0, q1, q2, q3⟩ := h2 k hlt
      generalize C k = cv at p2 q2
      generalize F k = fv at p3 q3
      clear h1 h2
      have hlt' : (k : Int) < (n : Int) := by omega
      go_wp2
      go_quiet (fail)
      go_wp2
      go_roundw
      case rel => exact ⟨k + 1, q + nq, by omega, by go_num, by simp [World.drewN]⟩
      case measure => simp [intOf]; omega
    · go_wp2
      go_ret
      exact ⟨rfl, q, rfl⟩
theorem eqP {a1 a2 : Option Addr} {n : Nat} {C F : Nat → Int} {w : World} (c1 c2 : Nat) (hn : n ≤ 1048576) (h1 : PA w a1 n C F) (h2 : PA w a2 n C F) :
    Calls Yba.prog 10 #[.slice a1 n c1, .slice a2 n c2] w fun e w' => e = .returned (.bool true) ∧ ∃ q, w' = w.drewN q := by
  by_cases h0 : n = 0
  · subst h0; exact eqP_zero _ _ _ _ _
  · rcases h1 with h1 | ⟨b1, o1, rfl, h1⟩
    · exact absurd h1 h0
    rcases h2 with h2 | ⟨b2, o2, rfl, h2⟩
    · exact absurd h2 h0
    exact eqP_some b1 o1 b2 o2 n c1 c2 C F w hn h1 h2

/-- Is x among the first n of T? -/
def among (T : Nat → Int) (n : Nat) (x : Int) : Bool := (List.range n).any fun j => x == T j
theorem among_succ (T : Nat → Int) (n : Nat) (x : Int) : among T (n + 1) x = (among T n x || (x == T n)) := by simp [among, List.range_succ]
theorem among_hit {T : Nat → Int} {n k : Nat} {x : Int} (hk : k < n) (h : (x == T k) = true) : among T n x = true := by
  unfold among; rw [List.any_eq_true]; exact ⟨k, by simpa using hk, h⟩

theorem idx_zero (a : Option Addr) (c : Nat) (x : Int) (w : World) : Calls Yba.prog 12 #[.slice a 0 c, .int .i32 x] w fun e w' => e = .returned (.int .i64 (-1)) ∧ w' = w := by
  go_enter Yba.func12, Yba.ntmps12
  go_wp2
  refine wp_loop_rounds 1 ?_
  rw [rounds_succ]
  go_wp2
  go_ret
  exact ⟨rfl, rfl⟩
theorem idx_some (b o n c : Nat) (x : Int) (T : Nat → Int) (w : World) (hn : n ≤ 1048576) (h : ∀ j, j < n → w.cell? ⟨b, o + j, none⟩ = some (.int .i32 (T j))) :
    Calls Yba.prog 12 #[.slice (some ⟨b, o, none⟩) n c, .int .i32 x] w fun e w' => (∃ r : Int, e = .returned (.int .i64 r) ∧ decide (0 ≤ r) = among T n x) ∧ w' = w := by
  go_enter Yba.func12, Yba.ntmps12
  go_wp2
  go_loop [8] (fun i => ∃ k : Nat, k ≤ n ∧ i = .int .i64 k ∧ among T k x = false) (fun i => n - (intOf i).toNat)
  case atStart => exact ⟨0, Nat.zero_le _, rfl, rfl⟩
  case round =>
    obtain ⟨k, hk, rfl, ha⟩ := hrel
    have HA := hide' ha
    clear ha
    by_cases hlt : k < n
    · have g1 := h k hlt
      clear h
      have hlt' : (k : Int) < (n : Int) := by omega
      generalize hT : T k = tv at g1
      have HT := hide' hT
      clear hT
      cases hx : (x == tv) with
      | true =>
        have HX := hide' hx
        go_wp2
        go_ret
        exact ⟨⟨_, rfl, by rw [among_hit hlt (by rw [HT.out]; exact HX.out)]; simp⟩, rfl⟩
      | false =>
        have HX := hide' hx
        go_wp2
        go_round
        case rel => exact ⟨k + 1, by omega, by go_num, by rw [among_succ, HA.out, HT.out, HX.out]; rfl⟩
        case measure => simp [intOf]; omega
    · obtain rfl : k = n := by omega
      go_wp2
      go_ret
      exact ⟨⟨_, rfl, by rw [HA.out]; rfl⟩, rfl⟩
theorem idx_any {a : Option Addr} {n : Nat} {T : Nat → Int} {w : World} (c : Nat) (x : Int) (hn : n ≤ 1048576) (h : CA w a n fun j => .int .i32 (T j)) :
    Calls Yba.prog 12 #[.slice a n c, .int .i32 x] w fun e w' => (∃ r : Int, e = .returned (.int .i64 r) ∧ decide (0 ≤ r) = among T n x) ∧ w' = w := by
  by_cases h0 : n = 0
  · subst h0
    exact (idx_zero a c x w).mono fun e w' ⟨h1, h2⟩ => ⟨⟨-1, h1, rfl⟩, h2⟩
  · rcases h with h | ⟨b, o, rfl, h⟩
    · exact absurd h h0
    exact idx_some b o n c x T w hn h
theorem has {a : Option Addr} {n : Nat} {T : Nat → Int} {w : World} (c : Nat) (x : Int) (hn : n ≤ 1048576) (h : CA w a n fun j => .int .i32 (T j)) :
    Calls Yba.prog 5 #[.slice a n c, .int .i32 x] w fun e w' => e = .returned (.bool (among T n x)) ∧ w' = w := by
  go_enter Yba.func5, Yba.ntmps5
  go_wp2_with fail
  refine (idx_any c x hn h).mono ?_
  rintro e w' ⟨⟨r, rfl, hr⟩, rfl⟩
  have HR := hide' hr
  clear hr
  go_wp2_with fail
  rw [HR.out]
  go_ret
  exact ⟨rfl, rfl⟩
end Go.Proofs.Ybulkdvxu
