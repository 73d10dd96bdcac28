import Derived.Test.YbulkdvywS4
namespace Go.Proofs.Ybulkdvyw
open Go.RowKit

theorem lane_and (x q d : Nat) (hd : d = 256 ^ q) (hq : q < 4) : bits .and .u64 (((dig 8 x : Nat) : Int) / (d : Int)) 1095216660735 = ((lane x q : Nat) : Int) := by
  subst hd
  have h := dig_lt x 8
  have h2 : dig 8 x / 256 ^ q < 18446744073709551616 := Nat.lt_of_le_of_lt (Nat.div_le_self _ _) h
  rw [← lane_of x q hq, ← Int.natCast_ediv]
  exact u64_and_nat _ 1095216660735 h2 (by decide)
theorem lane_and0 (x : Nat) : bits .and .u64 ((dig 8 x : Nat) : Int) 1095216660735 = ((lane x 0 : Nat) : Int) := by
  have h := lane_and x 0 1 rfl (by decide)
  simpa using h

set_option maxRecDepth 1000000 in
set_option maxHeartbeats 4000000 in
theorem read_runs (w : World) {a : Option Addr} {n c m bC bR : Nat} {xs : Nat → Nat} {g f : Nat → Int} (hx : ∀ j, j < n → xs j < 18446744073709551616) (hn : n ≤ 1048576)
    (hS : CA w a n fun j => .int .u64 ((xs j : Nat) : Int)) (hC : AB w bC g) (hR : AB w bR f) (hne : bC ≠ bR) (hm : m ≤ bC) (hm2 : m ≤ bR) :
    Calls Yba.prog 6 #[.slice a n c, .pointer (some ⟨bC, 0, none⟩), .pointer (some ⟨bR, 0, none⟩)] w
      (ReadPost m w bC bR (upd g (fun q => acc (fun j => lane (tr (xs j)) q) n) 4) (upd f (fun q => acc (fun j => lane (xs j) q) n) 4)) := by
  have HX := hide' hx
  have HS := hide' hS
  have HC := hide' hC
  have HR := hide' hR
  clear hx hS hC hR
  go_enter Yba.func6, Yba.ntmps6
  refine seq_hid fun K0 HK0 => ?_
  go_wp2_with fail
  refine HK0.out _ _ ?_
  clear HK0
  refine seq_hid fun K1 HK1 => ?_
  go_wp2_with fail
  go_loopw [6, 7, 8, 9, 10, 11, 12, 13, 24] (fun r0 r1 r2 r3 s0 s1 s2 s3 i wr => ∃ k q : Nat, k ≤ n ∧ i = .int .i64 k ∧ wr = w.drewN q ∧
      r0 = .int .u64 ((acc (fun j => lane (xs j) 0) k : Nat) : Int) ∧ r1 = .int .u64 ((acc (fun j => lane (xs j) 1) k : Nat) : Int) ∧ r2 = .int .u64 ((acc (fun j => lane (xs j) 2) k : Nat) : Int) ∧ r3 = .int .u64 ((acc (fun j => lane (xs j) 3) k : Nat) : Int) ∧
      s0 = .int .u64 ((acc (fun j => lane (tr (xs j)) 0) k : Nat) : Int) ∧ s1 = .int .u64 ((acc (fun j => lane (tr (xs j)) 1) k : Nat) : Int) ∧ s2 = .int .u64 ((acc (fun j => lane (tr (xs j)) 2) k : Nat) : Int) ∧ s3 = .int .u64 ((acc (fun j => lane (tr (xs j)) 3) k : Nat) : Int)) (fun _ _ _ _ _ _ _ _ i _ => n - (intOf i).toNat)
  case atStart => exact ⟨0, 0, Nat.zero_le _, rfl, rfl, rfl, rfl, rfl, rfl, rfl, rfl, rfl, rfl⟩
  case round =>
    obtain ⟨k, q, hk, rfl, rfl, rfl, rfl, rfl, rfl, rfl, rfl, rfl, rfl⟩ := hrel
    by_cases hlt : k < n
    · have hlt' : (k : Int) < (n : Int) := by omega
      obtain ⟨b, off, rfl, hc⟩ : ∃ b off, a = some ⟨b, off, none⟩ ∧ (w.drewN q).cell? ⟨b, off + k, none⟩ = some (.int .u64 ((xs k : Nat) : Int)) := by
        rcases HS.out with h | ⟨b, off, hx, h⟩
        · omega
        · exact ⟨b, off, hx, h k hlt⟩
      have hxk := HX.out k hlt
      have htk := tr_lt (xs k) hxk
      have c1 := fun w => bc_runs (xs k) hxk w
      have c2 := fun w => bc_runs (tr (xs k)) htk w
      have c3 := fun w => tr_runs (xs k) hxk w
      have l0 := lane_and0 (xs k)
      have l1 := lane_and (xs k) 1 256 rfl (by decide)
      have l2 := lane_and (xs k) 2 65536 rfl (by decide)
      have l3 := lane_and (xs k) 3 16777216 rfl (by decide)
      have m0 := lane_and0 (tr (xs k))
      have m1 := lane_and (tr (xs k)) 1 256 rfl (by decide)
      have m2 := lane_and (tr (xs k)) 2 65536 rfl (by decide)
      have m3 := lane_and (tr (xs k)) 3 16777216 rfl (by decide)
      have p0 := acc_step (fun j => lane (xs j) 0) k
      have p1 := acc_step (fun j => lane (xs j) 1) k
      have p2 := acc_step (fun j => lane (xs j) 2) k
      have p3 := acc_step (fun j => lane (xs j) 3) k
      have s0 := acc_step (fun j => lane (tr (xs j)) 0) k
      have s1 := acc_step (fun j => lane (tr (xs j)) 1) k
      have s2 := acc_step (fun j => lane (tr (xs j)) 2) k
      have s3 := acc_step (fun j => lane (tr (xs j)) 3) k
      rw [← l0] at p0
      rw [← l1] at p1
      rw [← l2] at p2
      rw [← l3] at p3
      rw [← m0] at s0
      rw [← m1] at s1
      rw [← m2] at s2
      rw [← m3] at s3
      clear l0 l1 l2 l3 m0 m1 m2 m3 hxk htk
      generalize dig 8 (xs k) = R at c1 p0 p1 p2 p3
      generalize dig 8 (tr (xs k)) = C at c2 s0 s1 s2 s3
      generalize tr (xs k) = tv at c2 c3
      generalize xs k = v at c1 c3 hc
      replace c1 := fun w => hide' (c1 w)
      replace c2 := fun w => hide' (c2 w)
      replace c3 := fun w => hide' (c3 w)
      have P0 := hide' p0
      have P1 := hide' p1
      have P2 := hide' p2
      have P3 := hide' p3
      have S0 := hide' s0
      have S1 := hide' s1
      have S2 := hide' s2
      have S3 := hide' s3
      clear p0 p1 p2 p3 s0 s1 s2 s3
      generalize hq0 : acc (fun j => lane (xs j) 0) k = a0 at P0 ⊢
      generalize hq1 : acc (fun j => lane (xs j) 1) k = a1 at P1 ⊢
      generalize hq2 : acc (fun j => lane (xs j) 2) k = a2 at P2 ⊢
      generalize hq3 : acc (fun j => lane (xs j) 3) k = a3 at P3 ⊢
      generalize hq4 : acc (fun j => lane (tr (xs j)) 0) k = a4 at S0 ⊢
      generalize hq5 : acc (fun j => lane (tr (xs j)) 1) k = a5 at S1 ⊢
      generalize hq6 : acc (fun j => lane (tr (xs j)) 2) k = a6 at S2 ⊢
      generalize hq7 : acc (fun j => lane (tr (xs j)) 3) k = a7 at S3 ⊢
      clear hq0 hq1 hq2 hq3 hq4 hq5 hq6 hq7
      go_wp2_with (first | (go_at_call 8; (first | with_reducible refine (c1 _).out.mono ?_ | with_reducible refine (c2 _).out.mono ?_); rintro e w' ⟨rfl, rfl⟩) | (go_at_call 9; refine (c3 _).out.mono ?_; rintro e w' ⟨rfl, rfl⟩))
      go_quiet (fail)
      go_wp2_with fail
      go_quiet (fail)
      go_wp2_with fail
      go_roundw
      case rel => exact ⟨k + 1, _, by omega, by simp, rfl, congrArg (Value.int .u64) P0.out, congrArg (Value.int .u64) P1.out, congrArg (Value.int .u64) P2.out, congrArg (Value.int .u64) P3.out, congrArg (Value.int .u64) S0.out, congrArg (Value.int .u64) S1.out, congrArg (Value.int .u64) S2.out, congrArg (Value.int .u64) S3.out⟩
      case measure => simp [intOf]; omega
    · obtain rfl : k = n := by omega
      go_wp2_with fail
      exact HK1.out _ _ (rtail2 w (w.drewN q) (A := fun q => acc (fun j => lane (xs j) q) k) (D := fun q => acc (fun j => lane (tr (xs j)) q) k) (fun i _ => acc_lt _ _) (fun i _ => acc_lt _ _) HC.out HR.out hne hm hm2 ⟨rfl, fun _ _ _ => rfl⟩ (below_drewN (Below.refl _ _) _))
end Go.Proofs.Ybulkdvyw
