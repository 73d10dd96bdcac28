import Derived.Test.YbulkdvywS1
import Derived.Deep.DeepCutAuto
import Derived.Below
import Derived.WalkSmall
namespace Go.Proofs.Ybulkdvyw
open Go.RowKit

/-- A row of one-cell elements that a slice leads to; nothing is asked where it is empty. -/
def CA (w : World) (a : Option Addr) (n : Nat) (f : Nat → Value) : Prop :=
  n = 0 ∨ ∃ b off, a = some ⟨b, off, none⟩ ∧ ∀ j, j < n → w.cell? ⟨b, off + j, none⟩ = some (f j)
theorem CA.kept {w w' : World} {a : Option Addr} {n : Nat} {f : Nat → Value} (h : CA w a n f) (hb : Below w.heap.size w w') : CA w' a n f := by
  rcases h with h | ⟨b, off, rfl, hc⟩
  · exact .inl h
  · exact .inr ⟨b, off, rfl, fun j hj => (hb.cell (p := ⟨b, off + j, none⟩) (World.block_lt_of_cell? w _ (hc j hj))).trans (hc j hj)⟩

def sndN : Nat → Code → Code
  | 0, c => c
  | n + 1, .seq _ b => sndN n b
  | _ + 1, c => c
theorem seq_hid {P : Program} {x y : Code} {Q : Exit → Act → World → Prop} {a : Act} {w : World} (h : ∀ K : Act → World → Prop, Hid (∀ a w, y.wp P Q a w → K a w) → x.wp P (Exit.then K Q) a w) : (Code.seq x y).wp P Q a w :=
  wp_seq_k fun K hK => h K hK

/-- A block that holds an array of eight numbers. -/
def AB (w : World) (b : Nat) (f : Nat → Int) : Prop :=
  ∃ cur, w.heap[b]? = some (.cells cur 23 (0, 0)) ∧ cur.size = 8 ∧ ∀ i, i < 8 → cur[i]? = some (.int .i64 (f i))
theorem AB.of_block {w w' : World} {b : Nat} {f : Nat → Int} (p : AB w b f) (e : w'.heap[b]? = w.heap[b]?) : AB w' b f := by
  obtain ⟨cur, h1, r⟩ := p
  exact ⟨cur, e.trans h1, r⟩
theorem AB.cell {w : World} {b : Nat} {f : Nat → Int} (p : AB w b f) {i : Nat} (hi : i < 8) : w.cell? ⟨b, i, none⟩ = some (.int .i64 (f i)) := by
  obtain ⟨cur, h1, _, h2⟩ := p
  rw [cell_of_row w b i cur 23 (0, 0) h1]; exact h2 i hi
theorem AB.fro {w : World} {b : Nat} {f : Nat → Int} (p : AB w b f) (i : Nat) : w.frozen? ⟨b, i, none⟩ = false := by
  obtain ⟨cur, h1, _, h2⟩ := p
  simp [World.frozen?, h1]
theorem AB.lt {w : World} {b : Nat} {f : Nat → Int} (p : AB w b f) : b < w.heap.size := by
  obtain ⟨cur, h1, _, h2⟩ := p
  exact (Array.getElem?_eq_some_iff.1 h1).1
theorem AB.set {w : World} {b : Nat} {f : Nat → Int} (p : AB w b f) {t : Nat} (ht : t < 8) (z : Int) : AB (w.setCell ⟨b, t, none⟩ (.int .i64 z)) b (fun i => if i = t then z else f i) := by
  obtain ⟨cur, h1, h2, h3⟩ := p
  refine ⟨cur.setIfInBounds t (.int .i64 z), by simp [World.setCell, Array.getElem?_modify, h1], by simpa using h2, fun j hj => ?_⟩
  rw [Array.getElem?_setIfInBounds]
  by_cases e : t = j
  · subst e; rw [if_pos rfl, if_pos (by omega)]; simp
  · rw [if_neg e]; show _ = some (Value.int .i64 (if j = t then z else f j)); rw [if_neg (fun (h : j = t) => e h.symm)]; exact h3 j hj
theorem AB.congr {w : World} {b : Nat} {f g : Nat → Int} (p : AB w b f) (e : ∀ i, i < 8 → f i = g i) : AB w b g := by
  obtain ⟨cur, h1, h2, h3⟩ := p
  exact ⟨cur, h1, h2, fun i hi => by rw [← e i hi]; exact h3 i hi⟩

/-- The array after k words have been added. -/
def upd (f : Nat → Int) (A : Nat → Nat) (k i : Nat) : Int :=
  if i < 4 then (if i < k then wrap64 (f i + (A i : Int) % 4294967296) else f i) else if i - 4 < k then wrap64 (f i + (A (i - 4) : Int) / 4294967296) else f i
theorem upd_zero (f : Nat → Int) (A : Nat → Nat) (i : Nat) : upd f A 0 i = f i := by unfold upd; simp
theorem upd_step (f : Nat → Int) (A : Nat → Nat) (k i : Nat) (hk : k < 4) (hi : i < 8) :
    (if i = k + 4 then wrap64 (f (k + 4) + (A k : Int) / 4294967296) else if i = k then wrap64 (f k + (A k : Int) % 4294967296) else upd f A k i) = upd f A (k + 1) i := by
  unfold upd
  by_cases h1 : i = k + 4
  · subst h1
    rw [if_pos rfl, if_neg (by omega), if_pos (by omega), Nat.add_sub_cancel]
  · rw [if_neg h1]
    by_cases h2 : i = k
    · subst h2; rw [if_pos rfl, if_pos hk, if_pos (by omega)]
    · rw [if_neg h2]
      by_cases h3 : i < 4
      · rw [if_pos h3, if_pos h3]
        by_cases h4 : i < k
        · rw [if_pos h4, if_pos (by omega)]
        · rw [if_neg h4, if_neg (by omega)]
      · rw [if_neg h3, if_neg h3]
        by_cases h4 : i - 4 < k
        · rw [if_pos h4, if_pos (by omega)]
        · rw [if_neg h4, if_neg (by omega)]
theorem upd_hi (f : Nat → Int) (A : Nat → Nat) (k : Nat) (hk : k < 4) : upd f A k (k + 4) = f (k + 4) := by
  unfold upd; rw [if_neg (by omega), if_neg (by omega)]
theorem upd_lo (f : Nat → Int) (A : Nat → Nat) (k : Nat) (hk : k < 4) : upd f A k k = f k := by
  unfold upd; rw [if_pos hk, if_neg (by omega)]

theorem idx31 (A : Nat → Nat) (k : Nat) (hk : k < 4) (w : World) : Sem.run Yba.prog (Instr.index 31 (.agg #[.int .u64 (A 0 : Nat), .int .u64 (A 1 : Nat), .int .u64 (A 2 : Nat), .int .u64 (A 3 : Nat)]) (.int .i64 (k : Nat))) w = .ok (.int .u64 (A k : Nat)) w := by
  obtain rfl | rfl | rfl | rfl : k = 0 ∨ k = 1 ∨ k = 2 ∨ k = 3 := by omega
  all_goals
    simp [Instr.index, Sem.run_bind, run_underlying Yba.underlying31, go_sem]

/-- What readSlices leaves alone. -/
def But (w w' : World) (b1 b2 : Nat) : Prop := w'.heap.size = w.heap.size ∧ ∀ b, b ≠ b1 → b ≠ b2 → w'.heap[b]? = w.heap[b]?
theorem But.set1 {w w' : World} {b1 b2 : Nat} (h : But w w' b1 b2) (t : Nat) (v : Value) : But w (w'.setCell ⟨b1, t, none⟩ v) b1 b2 :=
  ⟨by simpa [World.setCell] using h.1, fun b e1 e2 => (Below.heap_setCell w' ⟨b1, t, none⟩ v b e1).trans (h.2 b e1 e2)⟩
theorem But.set2 {w w' : World} {b1 b2 : Nat} (h : But w w' b1 b2) (t : Nat) (v : Value) : But w (w'.setCell ⟨b2, t, none⟩ v) b1 b2 :=
  ⟨by simpa [World.setCell] using h.1, fun b e1 e2 => (Below.heap_setCell w' ⟨b2, t, none⟩ v b e2).trans (h.2 b e1 e2)⟩
theorem But.drewN {w w' : World} {b1 b2 : Nat} (h : But w w' b1 b2) (q : Nat) : But w (w'.drewN q) b1 b2 := h
theorem AB.after {w : World} {b b' : Nat} {f : Nat → Int} (p : AB w b f) (hne : b ≠ b') (t : Nat) (v : Value) : AB (w.setCell ⟨b', t, none⟩ v) b f :=
  p.of_block (Below.heap_setCell w ⟨b', t, none⟩ v b hne)
def ReadPost (m : Nat) (w : World) (bC bR : Nat) (fC fR : Nat → Int) (e : Ending) (w' : World) : Prop :=
  e = .returned (.tuple #[]) ∧ AB w' bC fC ∧ AB w' bR fR ∧ But w w' bC bR ∧ Below m w w'

set_option maxRecDepth 1000000 in
set_option maxHeartbeats 4000000 in
theorem rtail3 (w0 w : World) {c0 c2 c3 c4 c5 c6 c7 c8 c9 c14 c15 c16 c17 c18 c19 c20 c21 c22 c23 c24 c25 c26 c27 c28 c29 c30 c31 c32 c33 c34 c35 c36 c37 c38 c39 c40 c41 c42 c43 c44 c45 c46 c47 c48 c49 c50 c51 c52 c53 c54 c55 c56 c57 c58 c59 c60 c61 c62 c63 c64 c65 c66 c67 c68 c69 c70 c71 c72 c73 c74 c75 c76 c77 c78 c79 c80 c81 c82 c83 c84 c85 c86 c87 c88 c89 c90 c91 c92 c93 c94 c95 c96 c97 c98 c99 c100 c101 c102 c103 c104 c105 c106 c107 c108 c109 c110 c111 c112 c113 c114 c115 c116 c117 c118 c119 c120 c121 c122 c123 c124 c125 c126 c127 c128 c129 c130 c131 c132 c133 c134 c135 c136 c137 c138 c139 c140 c141 c142 c143 c144 c145 c146 c147 c148 c149 c150 c151 c152 c153 c154 : Value} {m bC bR : Nat} {A : Nat → Nat} {f fR : Nat → Int} (hA : ∀ i, i < 4 → A i < 18446744073709551616)
    (hC : AB w bC f) (hR : AB w bR fR) (hne : bC ≠ bR) (hm : m ≤ bC) (hbut : But w0 w bC bR) (hbel : Below m w0 w) :
    Code.wp Yba.prog (sndN 3 (Yba.f6.body.getD .skip)) (bodyPost Yba.prog Yba.f6 (ReadPost m w0 bC bR (upd f A 4) fR)) ⟨#[c0, .pointer (some ⟨bC, 0, none⟩), c2, c3, c4, c5, c6, c7, c8, c9, .int .u64 ((A 0 : Nat) : Int), .int .u64 ((A 1 : Nat) : Int), .int .u64 ((A 2 : Nat) : Int), .int .u64 ((A 3 : Nat) : Int), c14, c15, c16, c17, c18, c19, c20, c21, c22, c23, c24, c25, c26, c27, c28, c29, c30, c31, c32, c33, c34, c35, c36, c37, c38, c39, c40, c41, c42, c43, c44, c45, c46, c47, c48, c49, c50, c51, c52, c53, c54, c55, c56, c57, c58, c59, c60, c61, c62, c63, c64, c65, c66, c67, c68, c69, c70, c71, c72, c73, c74, c75, c76, c77, c78, c79, c80, c81, c82, c83, c84, c85, c86, c87, c88, c89, c90, c91, c92, c93, c94, c95, c96, c97, c98, c99, c100, c101, c102, c103, c104, c105, c106, c107, c108, c109, c110, c111, c112, c113, c114, c115, c116, c117, c118, c119, c120, c121, c122, c123, c124, c125, c126, c127, c128, c129, c130, c131, c132, c133, c134, c135, c136, c137, c138, c139, c140, c141, c142, c143, c144, c145, c146, c147, c148, c149, c150, c151, c152, c153, c154], []⟩ w := by
  show Code.wp _ (Code.seq _ _) _ _ _
  have HA := hide' hA
  have HC := hide' hC
  have HR := hide' hR
  have HBut := hide' hbut
  have HBel := hide' hbel
  clear hA hC hR hbut hbel
  go_wp2_with fail
  go_loopw [127] (fun i wr => ∃ k : Nat, k ≤ 4 ∧ i = .int .i64 k ∧ AB wr bC (upd f A k) ∧ AB wr bR fR ∧ But w0 wr bC bR ∧ Below m w0 wr) (fun i _ => 4 - (intOf i).toNat)
  case atStart => exact ⟨0, Nat.zero_le _, rfl, HC.out.congr fun i _ => (upd_zero _ _ _).symm, HR.out, HBut.out, HBel.out⟩
  case round =>
    obtain ⟨k, hk, rfl, hC, hR, hbut, hbel⟩ := hrel
    by_cases hlt : k < 4
    · have hlt' : (k : Int) < 4 := by omega
      have hak := HA.out k hlt
      have c1 := hC.cell (i := k) (by omega)
      have c2 := hC.cell (i := k + 4) (by omega)
      rw [upd_lo f A k hlt] at c1
      rw [upd_hi f A k hlt] at c2
      have f1 := hC.fro k
      have f2 := hC.fro (k + 4)
      have hb := hC.lt
      replace hC := hide' hC
      replace hR := hide' hR
      replace hbut := hide' hbut
      replace hbel := hide' hbel
      have hix := fun w => idx31 A k hlt w
      go_wp2_with fail
      clear hix
      go_region
      have hC1 : AB ((wr.setCell ⟨bC, k, none⟩ (Value.int IntKind.i64 (wrap64 (f k + (A k : Int) % 4294967296)))).drew) bC _ := hC.out.set (t := k) (by omega) (wrap64 (f k + (A k : Int) % 4294967296))
      have hR1 : AB ((wr.setCell ⟨bC, k, none⟩ (Value.int IntKind.i64 (wrap64 (f k + (A k : Int) % 4294967296)))).drew) bR fR := hR.out.after (fun h => hne h.symm) _ _
      have hbut1 : But w0 ((wr.setCell ⟨bC, k, none⟩ (Value.int IntKind.i64 (wrap64 (f k + (A k : Int) % 4294967296)))).drew) bC bR := hbut.out.set1 _ _
      have hbel1 : Below m w0 ((wr.setCell ⟨bC, k, none⟩ (Value.int IntKind.i64 (wrap64 (f k + (A k : Int) % 4294967296)))).drew) := (hbel.out.setCell (p := ⟨bC, k, none⟩) hm _).drew
      clear hC hR hbut hbel c1 c2 f1 f2 hb
      generalize (wr.setCell ⟨bC, k, none⟩ (Value.int IntKind.i64 (wrap64 (f k + (A k : Int) % 4294967296)))).drew = w1 at hC1 hR1 hbut1 hbel1 ⊢
      have c2 := hC1.cell (i := k + 4) (by omega)
      rw [if_neg (by omega), upd_hi f A k hlt] at c2
      have f2 := hC1.fro (k + 4)
      have hb := hC1.lt
      replace hC1 := hide' hC1
      replace hR1 := hide' hR1
      replace hbut1 := hide' hbut1
      replace hbel1 := hide' hbel1
      go_wp2_with fail
      go_region
      have hC2 : AB ((w1.setCell ⟨bC, k + 4, none⟩ (Value.int IntKind.i64 (wrap64 (f (k + 4) + (A k : Int) / 4294967296)))).drew) bC (upd f A (k + 1)) := (hC1.out.set (t := k + 4) (by omega) (wrap64 (f (k + 4) + (A k : Int) / 4294967296))).congr fun i hi => upd_step f A k i hlt hi
      have hR2 : AB ((w1.setCell ⟨bC, k + 4, none⟩ (Value.int IntKind.i64 (wrap64 (f (k + 4) + (A k : Int) / 4294967296)))).drew) bR fR := hR1.out.after (fun h => hne h.symm) _ _
      have hbut2 : But w0 ((w1.setCell ⟨bC, k + 4, none⟩ (Value.int IntKind.i64 (wrap64 (f (k + 4) + (A k : Int) / 4294967296)))).drew) bC bR := hbut1.out.set1 _ _
      have hbel2 : Below m w0 ((w1.setCell ⟨bC, k + 4, none⟩ (Value.int IntKind.i64 (wrap64 (f (k + 4) + (A k : Int) / 4294967296)))).drew) := (hbel1.out.setCell (p := ⟨bC, k + 4, none⟩) hm _).drew
      clear hC1 hR1 hbut1 hbel1 c2 f2 hb
      generalize (w1.setCell ⟨bC, k + 4, none⟩ (Value.int IntKind.i64 (wrap64 (f (k + 4) + (A k : Int) / 4294967296)))).drew = w2 at hC2 hR2 hbut2 hbel2 ⊢
      replace hC2 := hide' hC2
      replace hR2 := hide' hR2
      replace hbut2 := hide' hbut2
      replace hbel2 := hide' hbel2
      go_wp2_with fail
      go_roundw
      case rel => exact ⟨k + 1, by omega, by simp, hC2.out, hR2.out, hbut2.out, hbel2.out⟩
      case measure => simp [intOf]; omega
    · obtain rfl : k = 4 := by omega
      replace hC := hide' hC
      replace hR := hide' hR
      replace hbut := hide' hbut
      replace hbel := hide' hbel
      go_wp2_with fail
      go_end0
      exact ⟨rfl, hC.out, hR.out, hbut.out, hbel.out⟩
end Go.Proofs.Ybulkdvyw
