import Derived.Test.YbulkdvywRows
import Derived.Test.YbulkdvywS2
import Derived.KernelRfl
import Derived.WalkKit
import Derived.WalkSpells
import Derived.WalkLawsBesides
import Derived.Deep.QuietTactic
import Derived.BigQuiet
import Derived.Laws.BitsAllLaws
import Derived.Laws.Shifts
import Derived.Laws.ShiftsVar
namespace Go.Proofs.Ybulkdvyw
open Go.RowKit

theorem hide' {p : Prop} (h : p) : Hid p := h

theorem bit_runs (x i : Nat) (hx : x < 18446744073709551616) (hi : i < 64) (w : World) :
    Calls Yba.prog 7 #[.int .u64 x, .int .i64 i] w fun e w' => e = .returned (.int .u64 ((x / 2^i % 2 : Nat) : Int)) ∧ w' = w := by
  have e0 : ((x : Int) / 2 ^ i) = ((x / 2 ^ i : Nat) : Int) := by simp
  have hx' : x / 2 ^ i < 18446744073709551616 := Nat.lt_of_le_of_lt (Nat.div_le_self _ _) hx
  have e1 : bits .and .u64 ((x : Int) / 2 ^ i) 1 = ((x / 2^i % 2 : Nat) : Int) := by
    rw [e0]
    have := u64_and_nat (x / 2 ^ i) 1 hx' (by decide)
    rw [Nat.and_one_is_mod] at this
    exact this
  replace e1 := hide' e1
  clear e0
  go_enter Yba.func7, Yba.ntmps7
  go_wp2
  go_ret
  refine ⟨?_, rfl⟩
  show Ending.returned (.int .u64 (bits .and .u64 ((x : Int) / 2 ^ i) 1)) = _
  rw [e1.out]

theorem u64_small (n : Nat) (h : n < 18446744073709551616) : IntKind.u64.wrap (n : Int) = (n : Int) := by
  rw [IntKind.wrap_u64]; omega

theorem i64_small (z : Int) (h1 : -9223372036854775808 ≤ z) (h2 : z < 9223372036854775808) : IntKind.i64.wrap z = z := by
  simp only [IntKind.wrap, IntKind.bits, IntKind.signed]
  simp
  omega

theorem bc_val (x : Nat) (hx : x < 18446744073709551616) :
    c1 8 (b1 8 (a1 8 x)) = dig 8 x := (bc_dig 8 x (by simpa using hx)).1

theorem bc_runs (x : Nat) (hx : x < 18446744073709551616) (w : World) :
    Calls Yba.prog 8 #[.int .u64 x] w fun e w' => e = .returned (.int .u64 (dig 8 x : Nat)) ∧ w' = w := by
  have e0 : bits .and .u64 ((x : Int) / 2) 6148914691236517205 = ((x / 2 &&& mk 0x55 8 : Nat) : Int) := by
    have := u64_and_nat (x / 2) 6148914691236517205 (by omega) (by decide)
    exact this
  have h0 : (x / 2 &&& mk 0x55 8) ≤ x / 2 := Nat.and_le_left
  have e1 : IntKind.u64.wrap ((x : Int) - ((x / 2 &&& mk 0x55 8 : Nat) : Int)) = ((a1 8 x : Nat) : Int) := by
    rw [IntKind.wrap_u64]; unfold a1; omega
  have h1 : a1 8 x < 18446744073709551616 := by unfold a1; omega
  generalize ha : a1 8 x = a at e1 h1
  have e2 : bits .and .u64 (a : Int) 3689348814741910323 = ((a &&& mk 0x33 8 : Nat) : Int) := u64_and_nat a 3689348814741910323 h1 (by decide)
  have e3 : bits .and .u64 ((a : Int) / 4) 3689348814741910323 = ((a / 4 &&& mk 0x33 8 : Nat) : Int) := by
    have := u64_and_nat (a / 4) 3689348814741910323 (by omega) (by decide)
    exact this
  have h2 : (a &&& mk 0x33 8) ≤ 3689348814741910323 := Nat.and_le_right
  have h3 : (a / 4 &&& mk 0x33 8) ≤ 3689348814741910323 := Nat.and_le_right
  have e4 : IntKind.u64.wrap (((a &&& mk 0x33 8 : Nat) : Int) + ((a / 4 &&& mk 0x33 8 : Nat) : Int)) = ((b1 8 a : Nat) : Int) := by
    rw [IntKind.wrap_u64]; unfold b1; omega
  have h4 : b1 8 a ≤ 7378697629483820646 := by unfold b1; omega
  generalize hb : b1 8 a = b at e4 h4
  have e5 : IntKind.u64.wrap ((b : Int) + (b : Int) / 16) = ((b + b / 16 : Nat) : Int) := by
    rw [IntKind.wrap_u64]; omega
  have e6 : bits .and .u64 ((b + b / 16 : Nat) : Int) 1085102592571150095 = ((c1 8 b : Nat) : Int) := u64_and_nat (b + b / 16) 1085102592571150095 (by omega) (by decide)
  have hv := bc_val x hx
  rw [ha, hb] at hv
  rw [hv] at e6
  clear ha hb hv
  go_enter Yba.func8, Yba.ntmps8
  go_wp2
  go_ret
  refine ⟨?_, rfl⟩
  show Ending.returned (.int .u64 (bits .and .u64 ((b : Int) + (b : Int) / 16) 1085102592571150095)) = _
  have e7 : ((b : Int) + (b : Int) / 16) = ((b + b / 16 : Nat) : Int) := by omega
  rw [e7, e6]

theorem and_mask (x m : Nat) (k : Nat) (hm : m < k) : x &&& m < k := Nat.lt_of_le_of_lt Nat.and_le_right hm

theorem xor_lt (x y : Nat) (hx : x < 18446744073709551616) (hy : y < 18446744073709551616) : x ^^^ y < 18446744073709551616 :=
  Nat.xor_lt_two_pow (n := 64) hx hy

theorem tr_runs (x : Nat) (hx : x < 18446744073709551616) (w : World) :
    Calls Yba.prog 9 #[.int .u64 x] w fun e w' => e = .returned (.int .u64 (tr x : Nat)) ∧ w' = w := by
  have key : ∀ (y d m : Nat), y < 18446744073709551616 → m < 18446744073709551616 → m * d < 18446744073709551616 →
      (bits .xor .u64 (y : Int) ((y : Int) / (d : Int)) = ((y ^^^ y / d : Nat) : Int)) ∧
      (bits .and .u64 ((y ^^^ y / d : Nat) : Int) (m : Int) = (((y ^^^ y / d) &&& m : Nat) : Int)) ∧
      (IntKind.u64.wrap ((((y ^^^ y / d) &&& m : Nat) : Int) * (d : Int)) = ((((y ^^^ y / d) &&& m) * d : Nat) : Int)) ∧
      ((y ^^^ y / d) &&& m) * d < 18446744073709551616 ∧ ((y ^^^ y / d) &&& m) < 18446744073709551616 := by
    intro y d m hy hm hmd
    have h1 : y / d < 18446744073709551616 := Nat.lt_of_le_of_lt (Nat.div_le_self _ _) hy
    have h2 : (y ^^^ y / d) &&& m ≤ m := Nat.and_le_right
    have h3 : ((y ^^^ y / d) &&& m) * d < 18446744073709551616 := Nat.lt_of_le_of_lt (Nat.mul_le_mul_right d h2) hmd
    refine ⟨?_, u64_and_nat _ m (xor_lt _ _ hy h1) hm, ?_, h3, by omega⟩
    · rw [← Int.natCast_ediv]; exact u64_xor_nat y (y / d) hy h1
    · rw [← Int.natCast_mul]; exact u64_small _ h3
  obtain ⟨a1, a2, a3, a4, a5⟩ := key x 128 0x00aa00aa00aa00aa hx (by decide) (by decide)
  have ht : tr x = tr x := rfl
  conv at ht => rhs; unfold tr
  dsimp only at ht
  generalize (x ^^^ x / 128) &&& 0x00aa00aa00aa00aa = t1 at a2 a3 a4 a5 ht
  have a6 := u64_xor_nat t1 (t1 * 128) a5 a4
  have a7 := u64_xor_nat x (t1 ^^^ t1 * 128) hx (xor_lt _ _ a5 a4)
  have hx1 := xor_lt x _ hx (xor_lt _ _ a5 a4)
  generalize x ^^^ (t1 ^^^ t1 * 128) = x1 at a7 hx1 ht
  obtain ⟨b1, b2, b3, b4, b5⟩ := key x1 16384 0x0000cccc0000cccc hx1 (by decide) (by decide)
  generalize (x1 ^^^ x1 / 16384) &&& 0x0000cccc0000cccc = t2 at b2 b3 b4 b5 ht
  have b6 := u64_xor_nat t2 (t2 * 16384) b5 b4
  have b7 := u64_xor_nat x1 (t2 ^^^ t2 * 16384) hx1 (xor_lt _ _ b5 b4)
  have hx2 := xor_lt x1 _ hx1 (xor_lt _ _ b5 b4)
  generalize x1 ^^^ (t2 ^^^ t2 * 16384) = x2 at b7 hx2 ht
  obtain ⟨d1, d2, d3, d4, d5⟩ := key x2 268435456 0x00000000f0f0f0f0 hx2 (by decide) (by decide)
  generalize (x2 ^^^ x2 / 268435456) &&& 0x00000000f0f0f0f0 = t3 at d2 d3 d4 d5 ht
  have d6 := u64_xor_nat x2 t3 hx2 d5
  have d7 := u64_xor_nat (x2 ^^^ t3) (t3 * 268435456) (xor_lt _ _ hx2 d5) d4
  rw [← ht] at d7
  clear key ht
  go_enter Yba.func9, Yba.ntmps9
  go_wp2
  go_ret
  refine ⟨?_, rfl⟩
  simp only [Int.cast_ofNat_Int] at a1 a2 a3 b1 b2 b3 d1 d2 d3
  rw [a1, a2, a3, a6, a7, b1, b2, b3, b6, b7, d1, d2, d3, d6, d7]
  rfl

/-- The bits of a byte, added up one by one. -/
def rsum (x b : Nat) : Nat → Nat
  | 0 => 0
  | k + 1 => rsum x b k + x / 2 ^ (8 * b + k) % 2
theorem rsum_le (x b k : Nat) : rsum x b k ≤ k := by
  induction k with
  | zero => exact Nat.le_refl _
  | succ k ih => simp only [rsum]; omega
theorem rsum_pc (x b : Nat) : rsum x b 8 = pc (x / 256 ^ b % 256) := by
  have e : ∀ k, x / 2 ^ (8 * b + k) = x / 256 ^ b / 2 ^ k := by
    intro k
    rw [Nat.pow_add, ← Nat.div_div_eq_div_mul, Nat.pow_mul]
  simp only [rsum, e, pc]
  generalize x / 256 ^ b = z
  omega
def csum (x a : Nat) : Nat → Nat
  | 0 => 0
  | k + 1 => csum x a k + x / 2 ^ (8 * k + a) % 2
theorem csum_le (x b k : Nat) : csum x b k ≤ k := by
  induction k with
  | zero => exact Nat.le_refl _
  | succ k ih => simp only [csum]; omega
theorem bit_of (x i y j : Nat) (h : x.testBit i = y.testBit j) : x / 2 ^ i % 2 = y / 2 ^ j % 2 := by
  rw [Nat.testBit_eq_decide_div_mod_eq, Nat.testBit_eq_decide_div_mod_eq, decide_eq_decide] at h
  omega
theorem csum_rsum (x a : Nat) (hx : x < 18446744073709551616) (ha : a < 8) : ∀ k, k ≤ 8 → csum x a k = rsum (tr x) a k := by
  intro k
  induction k with
  | zero => intro _; rfl
  | succ k ih =>
    intro hk
    simp only [csum, rsum]
    rw [ih (by omega), bit_of _ _ _ _ (tr_bits x hx a ha k (by omega))]
theorem csum_pc (x a : Nat) (hx : x < 18446744073709551616) (ha : a < 8) : csum x a 8 = pc (tr x / 256 ^ a % 256) := by
  rw [csum_rsum x a hx ha 8 (Nat.le_refl _), rsum_pc]

theorem row_runs (x b : Nat) (hx : x < 18446744073709551616) (hb : b < 8) (w : World) :
    Calls Yba.prog 4 #[.int .u64 x, .int .i64 b] w fun e w' => e = .returned (.int .u64 (pc (x / 256 ^ b % 256) : Nat)) ∧ w' = w := by
  rw [← rsum_pc]
  go_enter Yba.func4, Yba.ntmps4
  go_wp2
  go_loop [5, 6] (fun s i => ∃ k : Nat, k ≤ 8 ∧ i = .int .i64 k ∧ s = .int .u64 (rsum x b k : Nat)) (fun _ i => 8 - (intOf i).toNat)
  case atStart => exact ⟨0, Nat.zero_le _, rfl, rfl⟩
  case round =>
    obtain ⟨k, hk, rfl, rfl⟩ := hrel
    by_cases hlt : k < 8
    · have hlt' : (k : Int) < 8 := by omega
      have e1 : IntKind.i64.wrap (8 * (b : Int)) = 8 * (b : Int) := i64_small _ (by omega) (by omega)
      have e2 : 8 * (b : Int) + (k : Int) = ((8 * b + k : Nat) : Int) := by omega
      have hc := bit_runs x (8 * b + k) hx (by omega) w
      have hr := rsum_le x b k
      replace hc := hide' hc
      replace e2 := hide' e2
      go_wp2_with (go_at_call 7; rw [e2.out]; refine hc.out.mono ?_; rintro e w' ⟨rfl, rfl⟩)
      go_round
      case rel => exact ⟨k + 1, by omega, by simp, by simp [rsum]⟩
      case measure => simp [intOf]; omega
    · have : k = 8 := by omega
      subst this
      go_wp2
      go_ret
      exact ⟨rfl, rfl⟩

theorem col_runs (x b : Nat) (hx : x < 18446744073709551616) (hb : b < 8) (w : World) :
    Calls Yba.prog 5 #[.int .u64 x, .int .i64 b] w fun e w' => e = .returned (.int .u64 (pc (tr x / 256 ^ b % 256) : Nat)) ∧ w' = w := by
  rw [← csum_pc x b hx hb]
  go_enter Yba.func5, Yba.ntmps5
  go_wp2
  go_loop [5, 6] (fun s i => ∃ k : Nat, k ≤ 8 ∧ i = .int .i64 k ∧ s = .int .u64 (csum x b k : Nat)) (fun _ i => 8 - (intOf i).toNat)
  case atStart => exact ⟨0, Nat.zero_le _, rfl, rfl⟩
  case round =>
    obtain ⟨k, hk, rfl, rfl⟩ := hrel
    by_cases hlt : k < 8
    · have hlt' : (k : Int) < 8 := by omega
      have e1 : IntKind.i64.wrap (8 * (k : Int)) = 8 * (k : Int) := i64_small _ (by omega) (by omega)
      have e2 : 8 * (k : Int) + (b : Int) = ((8 * k + b : Nat) : Int) := by omega
      have hc := bit_runs x (8 * k + b) hx (by omega) w
      have hr := csum_le x b k
      replace hc := hide' hc
      replace e2 := hide' e2
      go_wp2_with (go_at_call 7; rw [e2.out]; refine hc.out.mono ?_; rintro e w' ⟨rfl, rfl⟩)
      go_round
      case rel => exact ⟨k + 1, by omega, by simp, by simp [csum]⟩
      case measure => simp [intOf]; omega
    · have : k = 8 := by omega
      subst this
      go_wp2
      go_ret
      exact ⟨rfl, rfl⟩

/-- What a counter gives to word q: bytes q and q + 4, counted, in lanes of 32 bits. -/
def lane (x q : Nat) : Nat := pc (x / 256 ^ q % 256) + pc (x / 256 ^ (q + 4) % 256) * 4294967296
theorem lane_le (x q : Nat) : lane x q ≤ 34359738376 := by
  have h1 := pc_le (x / 256 ^ q % 256); have h2 := pc_le (x / 256 ^ (q + 4) % 256); unfold lane; omega
theorem lane_of (x q : Nat) (hq : q < 4) : (dig 8 x / 256 ^ q) &&& 1095216660735 = lane x q := by
  rw [show (1095216660735 : Nat) = 0xff000000ff from rfl, lanes_eq, dig_bytes x 8 q (by omega)]
  rw [Nat.div_div_eq_div_mul, show 256 ^ q * 4294967296 = 256 ^ (q + 4) by rw [Nat.pow_add], dig_bytes x 8 (q + 4) (by omega)]
  rfl
/-- The wrapping sum of what k counters give. -/
def acc (f : Nat → Nat) : Nat → Nat
  | 0 => 0
  | k + 1 => (acc f k + f k * 2 ^ min k 64 % 18446744073709551616) % 18446744073709551616
theorem acc_lt (f : Nat → Nat) (k : Nat) : acc f k < 18446744073709551616 := by
  cases k with
  | zero => simp [acc]
  | succ k => simp only [acc]; omega
theorem acc_step (f : Nat → Nat) (k : Nat) : IntKind.u64.wrap ((acc f k : Int) + IntKind.u64.wrap ((f k : Int) * 2 ^ min k 64)) = ((acc f (k + 1) : Nat) : Int) := by
  rw [IntKind.wrap_u64, IntKind.wrap_u64]
  simp only [acc]
  have e : ((f k : Int) * 2 ^ min k 64) = ((f k * 2 ^ min k 64 : Nat) : Int) := by simp
  rw [e]
  generalize f k * 2 ^ min k 64 = z
  omega
end Go.Proofs.Ybulkdvyw
