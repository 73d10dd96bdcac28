import Derived.Test.YbulkdvwsW2
import Derived.Deep.LoopGhost
import Derived.Laws.BitsAll
import Derived.Laws.Shifts
import Derived.Deep.RegionLawGrows
import Derived.Deep.Light
namespace Go.Proofs.Ybulkdvws
open Go.RowKit

set_option maxRecDepth 100000 in
theorem emit_full (c : Nat) (ia : Option Addr) (n cap : Nat) (op out alv ar ar2 x0 x1 : Int) (sa oa : Option Addr) (m sc ol oc : Nat) (t : Bool) (w : World) (hn : 16384 ≤ n)
    (h0 : w.cell? ⟨c, 0, none⟩ = some (.slice ia n cap)) (h6 : w.cell? ⟨c, 6, none⟩ = some (.bool t)) (f6 : w.frozen? ⟨c, 6, none⟩ = false) :
    Calls Yba.prog 5 #[.pointer (some ⟨c, 0, none⟩), .agg #[.int .u8 op, .int .i64 out, .int .i64 alv, .int .i64 ar, .int .i64 ar2, .slice sa m sc, .int .u64 x0, .int .u64 x1, .slice oa ol oc]] w fun e w' =>
      e = .returned (.int .i64 0) ∧ w' = (w.setCell ⟨c, 6, none⟩ (.bool true)).alloc (.cells #[.int .u8 op, .int .i64 out, .int .i64 alv, .int .i64 ar, .int .i64 ar2, .slice sa m sc, .int .u64 x0, .int .u64 x1, .slice oa ol oc] 34) := by
  have hb : c < w.heap.size := World.block_lt_of_cell? w _ h0
  go_enter Yba.func5, Yba.ntmps5
  go_wp2
  go_ret
  exact ⟨rfl, rfl⟩

/-- The bit p (0 to 127) of the two words. -/
def tb (a0 a1 p : Nat) : Bool := if p < 64 then a0.testBit p else a1.testBit (p - 64)
/-- Does one of the first k ranges hold p? -/
def anyR (ls hs : List Nat) (k p : Nat) : Bool := (List.range k).any fun j => decide (ls.getD j 0 ≤ p ∧ p ≤ hs.getD j 0)

theorem anyR_succ (ls hs : List Nat) (k p : Nat) : anyR ls hs (k + 1) p = (anyR ls hs k p || decide (ls.getD k 0 ≤ p ∧ p ≤ hs.getD k 0)) := by
  simp [anyR, List.range_succ]

/-- The box of an instruction: its block, whole. -/
def Box (w : World) (B : Nat) (op out alv ar ar2 : Int) (sv : Value) (a0 a1 : Nat) (iv : Value) : Prop :=
  w.heap[B]? = some (.cells #[.int .u8 op, .int .i64 out, .int .i64 alv, .int .i64 ar, .int .i64 ar2, sv, .int .u64 a0, .int .u64 a1, iv] 34 (0, 0))

theorem Box.cell {w : World} {B : Nat} {op out alv ar ar2 : Int} {sv iv : Value} {a0 a1 : Nat} (h : Box w B op out alv ar ar2 sv a0 a1 iv) :
    w.cell? ⟨B, 5, none⟩ = some sv ∧ w.cell? ⟨B, 6, none⟩ = some (.int .u64 a0) ∧ w.cell? ⟨B, 7, none⟩ = some (.int .u64 a1) ∧ w.frozen? ⟨B, 6, none⟩ = false ∧ w.frozen? ⟨B, 7, none⟩ = false := by
  unfold Box at h
  refine ⟨?_, ?_, ?_, ?_, ?_⟩ <;> simp [World.cell?, World.frozen?, h]

theorem Box.set6 {w : World} {B : Nat} {op out alv ar ar2 : Int} {sv iv : Value} {a0 a1 : Nat} (h : Box w B op out alv ar ar2 sv a0 a1 iv) (x : Nat) :
    Box (w.setCell ⟨B, 6, none⟩ (.int .u64 x)) B op out alv ar ar2 sv x a1 iv := by
  unfold Box at h ⊢
  simp [World.setCell, Array.getElem?_modify, h]

theorem Box.set7 {w : World} {B : Nat} {op out alv ar ar2 : Int} {sv iv : Value} {a0 a1 : Nat} (h : Box w B op out alv ar ar2 sv a0 a1 iv) (x : Nat) :
    Box (w.setCell ⟨B, 7, none⟩ (.int .u64 x)) B op out alv ar ar2 sv a0 x iv := by
  unfold Box at h ⊢
  simp [World.setCell, Array.getElem?_modify, h]

theorem or_bit (b v : Nat) (hb : b < 2 ^ 64) (hv : v < 64) : bits .or .u64 (b : Int) (IntKind.u64.wrap (2 ^ v)) = ((b ||| 2 ^ v : Nat) : Int) := by
  have hp : 2 ^ v < 2 ^ 64 := Nat.pow_lt_pow_right (by decide) hv
  have e : IntKind.u64.wrap (2 ^ v) = ((2 ^ v : Nat) : Int) := by
    rw [IntKind.wrap_u64]
    have : ((2 : Int) ^ v) = ((2 ^ v : Nat) : Int) := by simp
    rw [this]
    have g : ∀ x : Nat, x < 2 ^ 64 → (x : Int) % 18446744073709551616 = x := by intro x hx; omega
    exact g _ hp
  rw [e]
  exact u64_or_nat b (2 ^ v) (by omega) (by simpa using hp)

theorem or_bit_lt (b v : Nat) (hb : b < 2 ^ 64) (hv : v < 64) : b ||| 2 ^ v < 2 ^ 64 := Nat.or_lt_two_pow hb (Nat.pow_lt_pow_right (by decide) hv)

theorem tb_lo (b0 b1 v : Nat) (hv : v < 64) : ∀ p, p < 128 → tb (b0 ||| 2 ^ v) b1 p = (tb b0 b1 p || decide (p = v)) := by
  intro p _
  unfold tb
  by_cases h : p < 64
  · simp only [h, if_true, Nat.testBit_or, Nat.testBit_two_pow]
    congr 1
    by_cases e : p = v <;> simp [e, eq_comm]
    omega
  · have : p ≠ v := by omega
    simp [h, this]

theorem tb_hi (b0 b1 v : Nat) (hv : 64 ≤ v) : ∀ p, p < 128 → tb b0 (b1 ||| 2 ^ (v - 64)) p = (tb b0 b1 p || decide (p = v)) := by
  intro p _
  unfold tb
  by_cases h : p < 64
  · have : p ≠ v := by omega
    simp [h, this]
  · simp only [h, if_false, Nat.testBit_or, Nat.testBit_two_pow]
    congr 1
    by_cases e : p = v
    · simp [e]
    · simp [e]; omega

theorem tb_step {a0 a1 b0 b1 b0' b1' lv v : Nat} (h : ∀ p, p < 128 → tb b0 b1 p = (tb a0 a1 p || decide (lv ≤ p ∧ p < v))) (hs : ∀ p, p < 128 → tb b0' b1' p = (tb b0 b1 p || decide (p = v))) (hlv : lv ≤ v) :
    ∀ p, p < 128 → tb b0' b1' p = (tb a0 a1 p || decide (lv ≤ p ∧ p < v + 1)) := by
  intro p hp
  rw [hs p hp, h p hp, Bool.or_assoc]
  congr 1
  rw [Bool.eq_iff_iff]
  simp
  omega

theorem tb_exit {a0 a1 b0 b1 lv hv v : Nat} (h : ∀ p, p < 128 → tb b0 b1 p = (tb a0 a1 p || decide (lv ≤ p ∧ p < v))) (hv' : v = lv ∨ (lv ≤ v ∧ v ≤ 128 ∧ v ≤ hv + 1)) (hx : ¬ (v ≤ hv ∧ v < 128))
    {x0 x1 k : Nat} {ls hs : List Nat} (hp : ∀ p, p < 128 → tb a0 a1 p = (tb x0 x1 p || anyR ls hs k p)) (hl : ls.getD k 0 = lv) (hh : hs.getD k 0 = hv) :
    ∀ p, p < 128 → tb b0 b1 p = (tb x0 x1 p || anyR ls hs (k + 1) p) := by
  intro p hp'
  rw [h p hp', hp p hp', anyR_succ, Bool.or_assoc, hl, hh]
  congr 2
  rw [Bool.eq_iff_iff]
  simp
  omega

/-- One round of the inner loop below 64. -/
theorem inner_lo {w wr : World} {R : Nat} {op out alv ar ar2 : Int} {sv ta : Value} {b0 b1 a0 a1 lv hv v : Nat} (hB : Box wr w.heap.size op out alv ar ar2 sv b0 b1 ta) (hbel : Below w.heap.size w wr) (hR : R < wr.heap.size) (hwR : w.heap.size < R)
    (hRc : wr.heap[R]? = some (.cells #[.int .u16 (lv : Int), .int .u16 (hv : Int)] 45 (0, 0))) (hb0 : b0 < 2 ^ 64) (hb1 : b1 < 2 ^ 64)
    (htb : ∀ p, p < 128 → tb b0 b1 p = (tb a0 a1 p || decide (lv ≤ p ∧ p < v))) (hv' : v = lv ∨ (lv ≤ v ∧ v ≤ 128 ∧ v ≤ hv + 1)) (e1 : v ≤ hv) (h64 : v < 64) :
    ∃ v' b0' b1' : Nat, Value.int .i64 ((v : Int) + 1) = .int .i64 v' ∧ (v' = lv ∨ (lv ≤ v' ∧ v' ≤ 128 ∧ v' ≤ hv + 1)) ∧
      Box (wr.setCell ⟨w.heap.size, 6, none⟩ (.int .u64 (bits .or .u64 (b0 : Int) (IntKind.u64.wrap (2 ^ v))))).drew w.heap.size op out alv ar ar2 sv b0' b1' ta ∧
      Below w.heap.size w (wr.setCell ⟨w.heap.size, 6, none⟩ (.int .u64 (bits .or .u64 (b0 : Int) (IntKind.u64.wrap (2 ^ v))))).drew ∧
      R < (wr.setCell ⟨w.heap.size, 6, none⟩ (.int .u64 (bits .or .u64 (b0 : Int) (IntKind.u64.wrap (2 ^ v))))).drew.heap.size ∧
      (wr.setCell ⟨w.heap.size, 6, none⟩ (.int .u64 (bits .or .u64 (b0 : Int) (IntKind.u64.wrap (2 ^ v))))).drew.heap[R]? = some (.cells #[.int .u16 (lv : Int), .int .u16 (hv : Int)] 45 (0, 0)) ∧ b0' < 2 ^ 64 ∧ b1' < 2 ^ 64 ∧
      ∀ p, p < 128 → tb b0' b1' p = (tb a0 a1 p || decide (lv ≤ p ∧ p < v')) := by
  rw [or_bit b0 v hb0 h64]
  refine ⟨v + 1, b0 ||| 2 ^ v, b1, by simp, by omega, hB.set6 _, (hbel.setCell (Nat.le_refl _) _).drew, ?_, ?_, or_bit_lt _ _ hb0 h64, hb1, tb_step htb (tb_lo _ _ _ h64) (by omega)⟩
  · show R < (wr.setCell _ _).heap.size
    simpa [World.setCell] using hR
  · show (wr.setCell _ _).heap[R]? = _
    rw [Below.heap_setCell _ _ _ _ (by show R ≠ w.heap.size; omega)]; exact hRc

theorem inner_hi {w wr : World} {R : Nat} {op out alv ar ar2 : Int} {sv ta : Value} {b0 b1 a0 a1 lv hv v : Nat} (hB : Box wr w.heap.size op out alv ar ar2 sv b0 b1 ta) (hbel : Below w.heap.size w wr) (hR : R < wr.heap.size) (hwR : w.heap.size < R)
    (hRc : wr.heap[R]? = some (.cells #[.int .u16 (lv : Int), .int .u16 (hv : Int)] 45 (0, 0))) (hb0 : b0 < 2 ^ 64) (hb1 : b1 < 2 ^ 64)
    (htb : ∀ p, p < 128 → tb b0 b1 p = (tb a0 a1 p || decide (lv ≤ p ∧ p < v))) (hv' : v = lv ∨ (lv ≤ v ∧ v ≤ 128 ∧ v ≤ hv + 1)) (e1 : v ≤ hv) (h64 : 64 ≤ v) (h128 : v < 128) :
    ∃ v' b0' b1' : Nat, Value.int .i64 ((v : Int) + 1) = .int .i64 v' ∧ (v' = lv ∨ (lv ≤ v' ∧ v' ≤ 128 ∧ v' ≤ hv + 1)) ∧
      Box (wr.setCell ⟨w.heap.size, 7, none⟩ (.int .u64 (bits .or .u64 (b1 : Int) (IntKind.u64.wrap (2 ^ (v - 64)))))).drew w.heap.size op out alv ar ar2 sv b0' b1' ta ∧
      Below w.heap.size w (wr.setCell ⟨w.heap.size, 7, none⟩ (.int .u64 (bits .or .u64 (b1 : Int) (IntKind.u64.wrap (2 ^ (v - 64)))))).drew ∧
      R < (wr.setCell ⟨w.heap.size, 7, none⟩ (.int .u64 (bits .or .u64 (b1 : Int) (IntKind.u64.wrap (2 ^ (v - 64)))))).drew.heap.size ∧
      (wr.setCell ⟨w.heap.size, 7, none⟩ (.int .u64 (bits .or .u64 (b1 : Int) (IntKind.u64.wrap (2 ^ (v - 64)))))).drew.heap[R]? = some (.cells #[.int .u16 (lv : Int), .int .u16 (hv : Int)] 45 (0, 0)) ∧ b0' < 2 ^ 64 ∧ b1' < 2 ^ 64 ∧
      ∀ p, p < 128 → tb b0' b1' p = (tb a0 a1 p || decide (lv ≤ p ∧ p < v')) := by
  rw [or_bit b1 (v - 64) hb1 (by omega)]
  refine ⟨v + 1, b0, b1 ||| 2 ^ (v - 64), by simp, by omega, hB.set7 _, (hbel.setCell (Nat.le_refl _) _).drew, ?_, ?_, hb0, or_bit_lt _ _ hb1 (by omega), tb_step htb (tb_hi _ _ _ h64) (by omega)⟩
  · show R < (wr.setCell _ _).heap.size
    simpa [World.setCell] using hR
  · show (wr.setCell _ _).heap[R]? = _
    rw [Below.heap_setCell _ _ _ _ (by show R ≠ w.heap.size; omega)]; exact hRc
end Go.Proofs.Ybulkdvws
