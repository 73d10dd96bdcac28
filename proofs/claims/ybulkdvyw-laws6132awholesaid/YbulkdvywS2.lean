namespace Go.Proofs.Ybulkdvyw

/-- Bits of numbers, with no Go in sight. -/
theorem and_split (n X y M c : Nat) (hy : y < 2 ^ n) (hc : c < 2 ^ n) : (2 ^ n * X + y) &&& (2 ^ n * M + c) = 2 ^ n * (X &&& M) + (y &&& c) := by
  apply Nat.eq_of_testBit_eq
  intro j
  have h : y &&& c < 2 ^ n := Nat.lt_of_le_of_lt Nat.and_le_left hy
  rw [Nat.testBit_and, Nat.testBit_two_pow_mul_add _ hy, Nat.testBit_two_pow_mul_add _ hc, Nat.testBit_two_pow_mul_add _ h]
  split <;> simp [Nat.testBit_and]

theorem lanes_eq (x : Nat) : x &&& 0xff000000ff = x % 256 + (x / 4294967296 % 256) * 4294967296 := by
  have h := and_split 32 (x / 4294967296) (x % 4294967296) 0xff 0xff (by omega) (by omega)
  have e : 2 ^ 32 * (x / 4294967296) + x % 4294967296 = x := by omega
  rw [e] at h
  rw [show (0xff000000ff : Nat) = 2 ^ 32 * 0xff + 0xff from rfl, h]
  have m1 : x / 4294967296 &&& 0xff = x / 4294967296 % 256 := Nat.and_two_pow_sub_one_eq_mod _ 8
  have m2 : x % 4294967296 &&& 0xff = x % 4294967296 % 256 := Nat.and_two_pow_sub_one_eq_mod _ 8
  rw [m1, m2]
  omega

/-- The mask of k bytes, each of them c. -/
def mk (c : Nat) : Nat → Nat
  | 0 => 0
  | k + 1 => 256 * mk c k + c

theorem mk_split (c : Nat) (hc : c < 256) (k X y : Nat) (hy : y < 256) : (256 * X + y) &&& mk c (k + 1) = 256 * (X &&& mk c k) + (y &&& c) :=
  and_split 8 X y (mk c k) c hy hc

/-- The number of set bits of a byte. -/
def pc (y : Nat) : Nat := y % 2 + y / 2 % 2 + y / 4 % 2 + y / 8 % 2 + y / 16 % 2 + y / 32 % 2 + y / 64 % 2 + y / 128 % 2
theorem pc_le (y : Nat) : pc y ≤ 8 := by unfold pc; omega

def a1 (k x : Nat) : Nat := x - (x / 2 &&& mk 0x55 k)
def b1 (k x : Nat) : Nat := (x &&& mk 0x33 k) + (x / 4 &&& mk 0x33 k)
def c1 (k x : Nat) : Nat := (x + x / 16) &&& mk 0x0f k

theorem byte_facts : ∀ y, y < 256 → (y &&& 0x55 = y % 128 &&& 0x55) ∧ (y &&& 0x33 = y % 64 &&& 0x33) ∧ (y &&& 0x0f = y % 16) ∧ (y / 2 &&& 0x55 ≤ y) ∧
    ((y - (y / 2 &&& 0x55)) < 256) ∧
    (((y - (y / 2 &&& 0x55)) &&& 0x33) + ((y - (y / 2 &&& 0x55)) / 4 &&& 0x33)) ≤ 68 ∧
    (((y - (y / 2 &&& 0x55)) &&& 0x33) + ((y - (y / 2 &&& 0x55)) / 4 &&& 0x33)) % 16 ≤ 4 ∧
    ((((y - (y / 2 &&& 0x55)) &&& 0x33) + ((y - (y / 2 &&& 0x55)) / 4 &&& 0x33)) + (((y - (y / 2 &&& 0x55)) &&& 0x33) + ((y - (y / 2 &&& 0x55)) / 4 &&& 0x33)) / 16) % 16 = pc y := by
  decide +kernel

theorem a1_split (k X y : Nat) (hy : y < 256) : a1 (k + 1) (256 * X + y) = 256 * a1 k X + (y - (y / 2 &&& 0x55)) ∧ (X / 2 &&& mk 0x55 k) ≤ X := by
  have hz : 256 * X + y = 256 * X + y := rfl
  have e : (256 * X + y) / 2 = 256 * (X / 2) + (X % 2 * 128 + y / 2) := by omega
  have h1 := mk_split 0x55 (by decide) k (X / 2) (X % 2 * 128 + y / 2) (by omega)
  have h2 := (byte_facts (X % 2 * 128 + y / 2) (by omega)).1
  have e2 : (X % 2 * 128 + y / 2) % 128 = y / 2 := by omega
  have h3 := (byte_facts y hy).2.2.2.1
  have h4 : (X / 2 &&& mk 0x55 k) ≤ X := Nat.le_trans Nat.and_le_left (Nat.div_le_self _ _)
  refine ⟨?_, h4⟩
  unfold a1
  rw [e, h1, h2, e2]
  omega

theorem b1_split (k X y : Nat) (hy : y < 256) : b1 (k + 1) (256 * X + y) = 256 * b1 k X + ((y &&& 0x33) + (y / 4 &&& 0x33)) := by
  have e : (256 * X + y) / 4 = 256 * (X / 4) + (X % 4 * 64 + y / 4) := by omega
  have h0 := mk_split 0x33 (by decide) k X y hy
  have h1 := mk_split 0x33 (by decide) k (X / 4) (X % 4 * 64 + y / 4) (by omega)
  have h2 := (byte_facts (X % 4 * 64 + y / 4) (by omega)).2.1
  have e2 : (X % 4 * 64 + y / 4) % 64 = y / 4 := by omega
  unfold b1
  rw [e, h0, h1, h2, e2]
  omega

theorem c1_split (k X y : Nat) (hX : X % 16 ≤ 4) (hy : y ≤ 68) : c1 (k + 1) (256 * X + y) = 256 * c1 k X + (y + y / 16) % 16 := by
  have e : (256 * X + y) + (256 * X + y) / 16 = 256 * (X + X / 16) + (X % 16 * 16 + (y + y / 16)) := by omega
  have h1 := mk_split 0x0f (by decide) k (X + X / 16) (X % 16 * 16 + (y + y / 16)) (by omega)
  have h2 := (byte_facts (X % 16 * 16 + (y + y / 16)) (by omega)).2.2.1
  unfold c1
  rw [e, h1, h2]
  omega

/-- Each byte's bits counted, k bytes. -/
def dig : Nat → Nat → Nat
  | 0, _ => 0
  | k + 1, x => 256 * dig k (x / 256) + pc (x % 256)

theorem bc_dig : ∀ (k x : Nat), x < 256 ^ k → c1 k (b1 k (a1 k x)) = dig k x ∧ (b1 k (a1 k x)) % 16 ≤ 4 := by
  intro k
  induction k with
  | zero => intro x hx; have : x = 0 := by simp at hx; omega
            subst this; simp [c1, b1, a1, mk, dig]
  | succ k ih =>
    intro x hx
    have hx' : x / 256 < 256 ^ k := by rw [Nat.pow_succ] at hx; omega
    obtain ⟨i1, i2⟩ := ih (x / 256) hx'
    have hy : x % 256 < 256 := by omega
    obtain ⟨_, _, _, _, f5, f6, f7, f8⟩ := byte_facts (x % 256) hy
    have e : x = 256 * (x / 256) + x % 256 := by omega
    have s1 := (a1_split k (x / 256) (x % 256) hy).1
    rw [← e] at s1
    rw [s1, b1_split _ _ _ f5, c1_split _ _ _ i2 f6, i1, f8]
    refine ⟨rfl, ?_⟩
    omega

theorem dig_bytes (x : Nat) : ∀ (k b : Nat), b < k → dig k x / 256 ^ b % 256 = pc (x / 256 ^ b % 256) := by
  intro k
  induction k generalizing x with
  | zero => intro b hb; omega
  | succ k ih =>
    intro b hb
    have hp := pc_le (x % 256)
    cases b with
    | zero => simp only [dig, Nat.pow_zero, Nat.div_one]; omega
    | succ b =>
      have h := ih (x / 256) b (by omega)
      have e1 : dig (k + 1) x / 256 ^ (b + 1) = dig k (x / 256) / 256 ^ b := by
        rw [Nat.pow_succ, Nat.mul_comm, ← Nat.div_div_eq_div_mul]; congr 1; simp only [dig]; omega
      have e2 : x / 256 ^ (b + 1) = x / 256 / 256 ^ b := by
        rw [Nat.pow_succ, Nat.mul_comm, ← Nat.div_div_eq_div_mul]
      rw [e1, e2, h]

theorem dig_lt (x : Nat) : ∀ k, dig k x < 256 ^ k := by
  intro k
  induction k generalizing x with
  | zero => simp [dig]
  | succ k ih => have := ih (x / 256); have := pc_le (x % 256); simp only [dig, Nat.pow_succ]; omega

/-- The 8x8 bits turned. -/
def tr (x : Nat) : Nat :=
  let t := (x ^^^ x / 128) &&& 0x00aa00aa00aa00aa
  let x := x ^^^ (t ^^^ t * 128)
  let t := (x ^^^ x / 16384) &&& 0x0000cccc0000cccc
  let x := x ^^^ (t ^^^ t * 16384)
  let t := (x ^^^ x / 268435456) &&& 0x00000000f0f0f0f0
  (x ^^^ t) ^^^ t * 268435456

theorem div_xor (n x y : Nat) : (x ^^^ y) / 2 ^ n = x / 2 ^ n ^^^ y / 2 ^ n := by
  simp only [← Nat.shiftRight_eq_div_pow]; exact Nat.shiftRight_xor_distrib
theorem mul_xor (n x y : Nat) : (x ^^^ y) * 2 ^ n = x * 2 ^ n ^^^ y * 2 ^ n := by
  simp only [← Nat.shiftLeft_eq]; exact Nat.shiftLeft_xor_distrib

def st (n m x : Nat) : Nat := x ^^^ (((x ^^^ x / 2 ^ n) &&& m) ^^^ ((x ^^^ x / 2 ^ n) &&& m) * 2 ^ n)
theorem xor4 (a b c d : Nat) : (a ^^^ b) ^^^ (c ^^^ d) = (a ^^^ c) ^^^ (b ^^^ d) := by
  rw [Nat.xor_assoc, Nat.xor_assoc, ← Nat.xor_assoc b c d, Nat.xor_comm b c, Nat.xor_assoc c b d]
theorem st_xor (n m x y : Nat) : st n m (x ^^^ y) = st n m x ^^^ st n m y := by
  have e : ((x ^^^ y) ^^^ (x ^^^ y) / 2 ^ n) &&& m = ((x ^^^ x / 2 ^ n) &&& m) ^^^ ((y ^^^ y / 2 ^ n) &&& m) := by
    rw [div_xor, xor4, Nat.and_xor_distrib_right]
  unfold st
  rw [e, mul_xor]
  rw [xor4 _ _ (_ * _), xor4]
theorem tr_st (x : Nat) : tr x = st 28 0xf0f0f0f0 (st 14 0xcccc0000cccc (st 7 0xaa00aa00aa00aa x)) := by
  unfold tr st
  simp only [Nat.xor_assoc]
theorem tr_xor (x y : Nat) : tr (x ^^^ y) = tr x ^^^ tr y := by
  simp only [tr_st, st_xor]

theorem bits_ind (P : Nat → Prop) (h0 : P 0) (hx : ∀ x y, P x → P y → P (x ^^^ y)) (k : Nat) (hb : ∀ i, i < k → P (2 ^ i)) : ∀ w, w < 2 ^ k → P w := by
  induction k with
  | zero => intro w hw; have : w = 0 := by simp at hw; omega
            rw [this]; exact h0
  | succ k ih =>
    have ih' := ih (fun i hi => hb i (by omega))
    intro w hw
    by_cases hlt : w < 2 ^ k
    · exact ih' w hlt
    · have hk : w.testBit k = true := Nat.testBit_of_two_pow_le_and_two_pow_add_one_gt (by omega) hw
      have hr : w ^^^ 2 ^ k < 2 ^ k := by
        apply Nat.lt_pow_two_of_testBit
        intro i hi
        rw [Nat.testBit_xor, Nat.testBit_two_pow]
        by_cases he : k = i
        · subst he; simp [hk]
        · have : w.testBit i = false := Nat.testBit_lt_two_pow (Nat.lt_of_lt_of_le hw (Nat.pow_le_pow_right (by decide) (by omega)))
          simp [this, he]
      have e : w = (w ^^^ 2 ^ k) ^^^ 2 ^ k := by rw [Nat.xor_assoc, Nat.xor_self, Nat.xor_zero]
      rw [e]
      exact hx _ _ (ih' _ hr) (hb k (by omega))

theorem tr_basis : ∀ i, i < 64 → ∀ a, a < 8 → ∀ b, b < 8 → (tr (2 ^ i)).testBit (8 * a + b) = (2 ^ i).testBit (8 * b + a) := by
  decide +kernel

theorem tr_bits (w : Nat) (hw : w < 2 ^ 64) : ∀ a, a < 8 → ∀ b, b < 8 → (tr w).testBit (8 * a + b) = w.testBit (8 * b + a) := by
  refine bits_ind (fun w => ∀ a, a < 8 → ∀ b, b < 8 → (tr w).testBit (8 * a + b) = w.testBit (8 * b + a)) ?_ ?_ 64 tr_basis w hw
  · intro a _ b _; simp [tr]
  · intro x y hx hy a ha b hb
    rw [tr_xor, Nat.testBit_xor, Nat.testBit_xor, hx a ha b hb, hy a ha b hb]

theorem tr_lt (w : Nat) (hw : w < 2 ^ 64) : tr w < 2 ^ 64 := by
  refine bits_ind (fun w => tr w < 2 ^ 64) (by decide) ?_ 64 (by decide +kernel) w hw
  intro x y hx hy
  show tr (x ^^^ y) < 2 ^ 64
  rw [tr_xor]; exact Nat.xor_lt_two_pow hx hy

end Go.Proofs.Ybulkdvyw
