import Derived.Test.YbulkdvwsW5
namespace Go.Proofs.Ybulkdvws
open Go.RowKit

/-- A row of numbers that a slice leads to, in a block other than X; nothing is asked where it is empty. -/
def IA (X : Nat) (w : World) (a : Option Addr) (n : Nat) (zs : List Int) : Prop :=
  n = 0 ∨ ∃ b off, a = some ⟨b, off, none⟩ ∧ b ≠ X ∧ ∀ j, j < n → w.cell? ⟨b, off + j, none⟩ = some (.int .i64 (zs.getD j 0))
/-- A row of ranges likewise. -/
def RA (X : Nat) (w : World) (a : Option Addr) (n : Nat) (ls hs : List Nat) : Prop :=
  n = 0 ∨ ∃ b off, a = some ⟨b, off, none⟩ ∧ b ≠ X ∧ (∀ j, j < n → w.cell? ⟨b, off + j * 2, none⟩ = some (.int .u16 ((ls.getD j 0 : Nat) : Int))) ∧ ∀ j, j < n → w.cell? ⟨b, off + j * 2 + 1, none⟩ = some (.int .u16 ((hs.getD j 0 : Nat) : Int))

theorem cell_kept {w w' : World} {X : Nat} (hk : ∀ k, k < w.heap.size → k ≠ X → w'.heap[k]? = w.heap[k]?) {a : Addr} {v : Value} (hX : a.block ≠ X) (h : w.cell? a = some v) : w'.cell? a = some v :=
  (World.cell?_of_block (w := w) (hk a.block (World.block_lt_of_cell? w a h) hX)).trans h

theorem IA.kept {X Y : Nat} {w w' : World} {a : Option Addr} {n : Nat} {zs : List Int} (h : IA X w a n zs) (hY : X = Y ∨ w.heap.size ≤ Y) (hk : ∀ k, k < w.heap.size → k ≠ Y → w'.heap[k]? = w.heap[k]?) : IA X w' a n zs := by
  rcases h with h | ⟨b, off, rfl, hb, hc⟩
  · exact .inl h
  · by_cases hn : n = 0
    · exact .inl hn
    have hlt : b < w.heap.size := World.block_lt_of_cell? w _ (hc 0 (by omega))
    exact .inr ⟨b, off, rfl, hb, fun j hj => cell_kept hk (by show b ≠ Y; omega) (hc j hj)⟩
theorem RA.kept {X Y : Nat} {w w' : World} {a : Option Addr} {n : Nat} {ls hs : List Nat} (h : RA X w a n ls hs) (hY : X = Y ∨ w.heap.size ≤ Y) (hk : ∀ k, k < w.heap.size → k ≠ Y → w'.heap[k]? = w.heap[k]?) : RA X w' a n ls hs := by
  rcases h with h | ⟨b, off, rfl, hb, hc, hd⟩
  · exact .inl h
  · by_cases hn : n = 0
    · exact .inl hn
    have hlt : b < w.heap.size := World.block_lt_of_cell? w _ (hc 0 (by omega))
    exact .inr ⟨b, off, rfl, hb, fun j hj => cell_kept hk (by show b ≠ Y; omega) (hc j hj), fun j hj => cell_kept hk (by show b ≠ Y; omega) (hd j hj)⟩
theorem IA.alloc {X : Nat} {w : World} {a : Option Addr} {n : Nat} {zs : List Int} (h : IA X w a n zs) (o : Obj) : IA X (w.alloc o) a n zs :=
  h.kept (Y := w.heap.size) (.inr (Nat.le_refl _)) (fun _ hk _ => Below.heap_alloc _ _ _ hk)
theorem RA.alloc {X : Nat} {w : World} {a : Option Addr} {n : Nat} {ls hs : List Nat} (h : RA X w a n ls hs) (o : Obj) : RA X (w.alloc o) a n ls hs :=
  h.kept (Y := w.heap.size) (.inr (Nat.le_refl _)) (fun _ hk _ => Below.heap_alloc _ _ _ hk)
theorem IA.drewN {X : Nat} {w : World} {a : Option Addr} {n : Nat} {zs : List Int} (h : IA X w a n zs) (q : Nat) : IA X (w.drewN q) a n zs := h
theorem RA.drewN {X : Nat} {w : World} {a : Option Addr} {n : Nat} {ls hs : List Nat} (h : RA X w a n ls hs) (q : Nat) : RA X (w.drewN q) a n ls hs := h

theorem ints_any {X1 X2 : Nat} {a1 a2 : Option Addr} {n : Nat} {zs : List Int} {w : World} (c1 c2 : Nat) (hn : n ≤ 1048576) (h1 : IA X1 w a1 n zs) (h2 : IA X2 w a2 n zs) :
    Calls Yba.prog 6 #[.slice a1 n c1, .slice a2 n c2] w fun e w' => e = .returned (.bool true) ∧ ∃ q, w' = w.drewN q := by
  by_cases h0 : n = 0
  · subst h0; exact ints_zero _ _ _ _ _
  · rcases h1 with h1 | ⟨b1, o1, rfl, _, h1⟩
    · exact absurd h1 h0
    rcases h2 with h2 | ⟨b2, o2, rfl, _, h2⟩
    · exact absurd h2 h0
    exact ints_some b1 o1 b2 o2 n c1 c2 zs w hn h1 h2
theorem map_getD (ls : List Nat) (j : Nat) : (ls.map fun (x : Nat) => (x : Int)).getD j 0 = ((ls.getD j 0 : Nat) : Int) := by
  simp only [List.getD_eq_getElem?_getD, List.getElem?_map]
  cases ls[j]? <;> simp
theorem set_any {X1 X2 : Nat} {a1 a2 : Option Addr} {n : Nat} {ls hs : List Nat} {w : World} (c1 c2 : Nat) (hn : n ≤ 1048576) (h1 : RA X1 w a1 n ls hs) (h2 : RA X2 w a2 n ls hs) :
    Calls Yba.prog 7 #[.slice a1 n c1, .slice a2 n c2] w fun e w' => e = .returned (.bool true) ∧ ∃ q, w' = w.drewN q := by
  by_cases h0 : n = 0
  · subst h0; exact set_zero _ _ _ _ _
  · rcases h1 with h1 | ⟨b1, o1, rfl, _, h1, h1'⟩
    · exact absurd h1 h0
    rcases h2 with h2 | ⟨b2, o2, rfl, _, h2, h2'⟩
    · exact absurd h2 h0
    exact set_some b1 o1 b2 o2 n c1 c2 (ls.map fun (x : Nat) => (x : Int)) (hs.map fun (x : Nat) => (x : Int)) w hn
      (fun j hj => by rw [map_getD]; exact h1 j hj) (fun j hj => by rw [map_getD]; exact h1' j hj) (fun j hj => by rw [map_getD]; exact h2 j hj) (fun j hj => by rw [map_getD]; exact h2' j hj)

/-- The box of the law's own parameter. -/
def InBox (w : World) (B : Nat) (op out alv ar ar2 : Int) (rv : Value) (x0 x1 : Nat) (jv : Value) : Prop :=
  w.heap[B]? = some (.cells #[.int .u8 op, .int .i64 out, .int .i64 alv, .int .i64 ar, .int .i64 ar2, rv, .int .u64 x0, .int .u64 x1, jv] 28 (0, 0))
theorem InBox.all {w : World} {B : Nat} {op out alv ar ar2 : Int} {sv iv : Value} {a0 a1 : Nat} (h : InBox w B op out alv ar ar2 sv a0 a1 iv) :
    w.cell? ⟨B, 0, none⟩ = some (.int .u8 op) ∧ w.cell? ⟨B, 1, none⟩ = some (.int .i64 out) ∧ w.cell? ⟨B, 2, none⟩ = some (.int .i64 alv) ∧ w.cell? ⟨B, 3, none⟩ = some (.int .i64 ar) ∧ w.cell? ⟨B, 4, none⟩ = some (.int .i64 ar2) ∧
    w.cell? ⟨B, 5, none⟩ = some sv ∧ w.cell? ⟨B, 6, none⟩ = some (.int .u64 a0) ∧ w.cell? ⟨B, 7, none⟩ = some (.int .u64 a1) ∧ w.cell? ⟨B, 8, none⟩ = some iv := by
  unfold InBox at h
  refine ⟨?_, ?_, ?_, ?_, ?_, ?_, ?_, ?_, ?_⟩ <;> simp [World.cell?, h]

/-- ';' with the rest kept aside from the walk. -/
theorem seq_hid {P : Program} {x y : Code} {Q : Exit → Act → World → Prop} {a : Act} {w : World} (h : ∀ K : Act → World → Prop, Hid (∀ a w, y.wp P Q a w → K a w) → x.wp P (Exit.then K Q) a w) : (Code.seq x y).wp P Q a w :=
  wp_seq_k fun K hK => h K hK

def fstC : Code → Code
  | .seq a _ => a
  | c => c
def elseC : Code → Code
  | .seq _ (.cond _ _ b) => b
  | c => c
theorem eq26n (a b : Int) (w : World) : (Op.equalIn 10000 26 (.agg #[.int .u64 a, .int .u64 b]) (.agg #[.int .u64 a, .int .u64 b])).run Yba.prog w = .ok true w := eq26_same a b w
end Go.Proofs.Ybulkdvws
