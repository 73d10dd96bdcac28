import Derived.Test.YbulkdvywS5
import Derived.Laws.StructEq
namespace Go.Proofs.Ybulkdvyw
open Go.RowKit

theorem eq23_same (f : Nat → Int) (w : World) : (Op.equalIn 10000 23 (Value.agg #[Value.int .i64 (f 0), Value.int .i64 (f 1), Value.int .i64 (f 2), Value.int .i64 (f 3), Value.int .i64 (f 4), Value.int .i64 (f 5), Value.int .i64 (f 6), Value.int .i64 (f 7)]) (Value.agg #[Value.int .i64 (f 0), Value.int .i64 (f 1), Value.int .i64 (f 2), Value.int .i64 (f 3), Value.int .i64 (f 4), Value.int .i64 (f 5), Value.int .i64 (f 6), Value.int .i64 (f 7)])).run Yba.prog w = .ok true w := by
  have u3 := Yba.underlying2
  have a3 := Yba.isAgg2
  have z3 := Yba.sizeOf2
  rw [show (10000 : Nat) = 9999 + 1 from rfl, Op.equalIn]
  simp only [Sem.run_bind, run_underlying Yba.underlying23, Result.andThen_ok]
  simp only [Std.Legacy.Range.forIn_eq_forIn_range', Std.Legacy.Range.size, Nat.sub_zero, Nat.add_sub_cancel, Nat.div_one, List.range'_succ, List.range'_zero, List.forIn_cons, List.forIn_nil]
  go_simp

set_option maxRecDepth 1000000 in
set_option maxHeartbeats 4000000 in
theorem t11 (w0 w : World) {c1 c2 c3 c4 c5 c6 c8 c9 c10 c11 c12 c13 c14 c15 c16 c17 c18 c19 c20 c21 c22 c23 c24 c25 c26 c27 c28 c29 c30 c31 c32 c33 c34 c35 c36 c37 c38 c39 c40 c41 c42 c43 c44 c45 c46 c47 c48 c49 c50 c51 c52 c53 c54 c55 c56 c57 c58 c59 c60 c61 c62 c63 c64 c65 c66 c67 c68 c69 c70 c71 c72 c73 c74 c75 c76 c77 c78 c79 c80 c81 c82 c83 c84 c85 c86 c87 c88 c89 c90 c91 c92 c93 c94 c95 c96 c97 c98 c99 c100 c101 c102 c103 c104 c105 c106 c107 c108 c109 c110 c111 c112 c113 c114 c115 c116 c117 c118 c119 c120 c121 c122 c123 c124 c125 c126 c127 c128 c129 c130 c131 c132 c133 c134 c135 c136 c137 c138 c139 c140 c141 c142 c143 c144 c145 c146 c147 c148 c149 c150 c151 c152 c153 : Value} {a a' : Option Addr} {n c c' : Nat} {xs : Nat → Nat} (hn : n ≤ 1048576)
    (hS : CA w a n fun j => .int .u64 ((xs j : Nat) : Int)) (hK : CA w a' n fun j => .int .u64 ((xs j : Nat) : Int)) (hB : Below w0.heap.size w0 w) :
    Code.wp Yba.prog (sndN 11 (Yba.f3.body.getD .skip)) (bodyPost Yba.prog Yba.f3 (fun e w' => e = .returned (.bool true) ∧ Below w0.heap.size w0 w')) ⟨#[.slice a n c, c1, c2, c3, c4, c5, c6, .slice a' n c', c8, c9, c10, c11, c12, c13, c14, c15, c16, c17, c18, c19, c20, c21, c22, c23, c24, c25, c26, c27, c28, c29, c30, c31, c32, c33, c34, c35, c36, c37, c38, c39, c40, c41, c42, c43, c44, c45, c46, c47, c48, c49, c50, c51, c52, c53, c54, c55, c56, c57, c58, c59, c60, c61, c62, c63, c64, c65, c66, c67, c68, c69, c70, c71, c72, c73, c74, c75, c76, c77, c78, c79, c80, c81, c82, c83, c84, c85, c86, c87, c88, c89, c90, c91, c92, c93, c94, c95, c96, c97, c98, c99, c100, c101, c102, c103, c104, c105, c106, c107, c108, c109, c110, c111, c112, c113, c114, c115, c116, c117, c118, c119, c120, c121, c122, c123, c124, c125, c126, c127, c128, c129, c130, c131, c132, c133, c134, c135, c136, c137, c138, c139, c140, c141, c142, c143, c144, c145, c146, c147, c148, c149, c150, c151, c152, c153], []⟩ w := by
  show Code.wp _ (Code.seq _ _) _ _ _
  have HS := hide' hS
  have HK := hide' hK
  have HB := hide' hB
  clear hS hK hB
  refine seq_hid fun K1 HK1 => ?_
  go_wp2_with fail
  go_loopw [19] (fun i wr => ∃ k q : Nat, k ≤ n ∧ i = .int .i64 k ∧ wr = w.drewN q) (fun i _ => n - (intOf i).toNat)
  case atStart => exact ⟨0, 0, Nat.zero_le _, rfl, rfl⟩
  case round =>
    obtain ⟨k, q, hk, rfl, rfl⟩ := hrel
    by_cases hlt : k < n
    · have hlt' : (k : Int) < (n : Int) := by omega
      obtain ⟨b, off, rfl, hc⟩ : ∃ b off, a = some ⟨b, off, none⟩ ∧ w.cell? ⟨b, off + k, none⟩ = some (.int .u64 ((xs k : Nat) : Int)) := by
        rcases HS.out with h | ⟨b, off, hx, h⟩
        · omega
        · exact ⟨b, off, hx, h k hlt⟩
      obtain ⟨b', off', rfl, hc'⟩ : ∃ b off, a' = some ⟨b, off, none⟩ ∧ w.cell? ⟨b, off + k, none⟩ = some (.int .u64 ((xs k : Nat) : Int)) := by
        rcases HK.out with h | ⟨b, off, hx, h⟩
        · omega
        · exact ⟨b, off, hx, h k hlt⟩
      generalize xs k = v at hc hc'
      have e1 : ((v : Int) != (v : Int)) = false := by simp
      go_wp2_with fail
      go_quiet (fail)
      go_wp2_with fail
      go_roundw
      case rel => exact ⟨k + 1, q + nq, by omega, by simp, by simp [World.drewN]⟩
      case measure => simp [intOf]; omega
    · go_wp2_with fail
      refine HK1.out _ _ ?_
      clear HK1
      go_wp2_with fail
      go_ret
      exact ⟨rfl, below_drewN HB.out _⟩

set_option maxRecDepth 1000000 in
set_option maxHeartbeats 4000000 in
theorem t9 (w0 w : World) {c1 c2 c3 c4 c5 c6 c10 c11 c12 c13 c14 c15 c16 c19 c20 c21 c22 c23 c24 c25 c26 c27 c28 c29 c30 c31 c32 c33 c34 c35 c36 c37 c38 c39 c40 c41 c42 c43 c44 c45 c46 c47 c48 c49 c50 c51 c52 c53 c54 c55 c56 c57 c58 c59 c60 c61 c62 c63 c64 c65 c66 c67 c68 c69 c70 c71 c72 c73 c74 c75 c76 c77 c78 c79 c80 c81 c82 c83 c84 c85 c86 c87 c88 c89 c90 c91 c92 c93 c94 c95 c96 c97 c98 c99 c100 c101 c102 c103 c104 c105 c106 c107 c108 c109 c110 c111 c112 c113 c114 c115 c116 c117 c118 c119 c120 c121 c122 c123 c124 c125 c126 c127 c128 c129 c130 c131 c132 c133 c134 c135 c136 c137 c138 c139 c140 c141 c142 c143 c144 c145 c146 c147 c148 c149 c150 c151 c152 c153 : Value} {a a' : Option Addr} {n c c' eR eC gR gC : Nat} {xs : Nat → Nat} {f g : Nat → Int} (hn : n ≤ 1048576)
    (hS : CA w a n fun j => .int .u64 ((xs j : Nat) : Int)) (hK : CA w a' n fun j => .int .u64 ((xs j : Nat) : Int)) (hnil : a.isNone = a'.isNone)
    (h1 : AB w eR f) (h2 : AB w gR f) (h3 : AB w eC g) (h4 : AB w gC g) (hB : Below w0.heap.size w0 w) :
    Code.wp Yba.prog (sndN 9 (Yba.f3.body.getD .skip)) (bodyPost Yba.prog Yba.f3 (fun e w' => e = .returned (.bool true) ∧ Below w0.heap.size w0 w')) ⟨#[.slice a n c, c1, c2, c3, c4, c5, c6, .slice a' n c', .pointer (some ⟨eR, 0, none⟩), .pointer (some ⟨eC, 0, none⟩), c10, c11, c12, c13, c14, c15, c16, .pointer (some ⟨gC, 0, none⟩), .pointer (some ⟨gR, 0, none⟩), c19, c20, c21, c22, c23, c24, c25, c26, c27, c28, c29, c30, c31, c32, c33, c34, c35, c36, c37, c38, c39, c40, c41, c42, c43, c44, c45, c46, c47, c48, c49, c50, c51, c52, c53, c54, c55, c56, c57, c58, c59, c60, c61, c62, c63, c64, c65, c66, c67, c68, c69, c70, c71, c72, c73, c74, c75, c76, c77, c78, c79, c80, c81, c82, c83, c84, c85, c86, c87, c88, c89, c90, c91, c92, c93, c94, c95, c96, c97, c98, c99, c100, c101, c102, c103, c104, c105, c106, c107, c108, c109, c110, c111, c112, c113, c114, c115, c116, c117, c118, c119, c120, c121, c122, c123, c124, c125, c126, c127, c128, c129, c130, c131, c132, c133, c134, c135, c136, c137, c138, c139, c140, c141, c142, c143, c144, c145, c146, c147, c148, c149, c150, c151, c152, c153], []⟩ w := by
  show Code.wp _ (Code.seq _ _) _ _ _
  have r0 := h1.cell (i := 0) (by decide)
  have r1 := h1.cell (i := 1) (by decide)
  have r2 := h1.cell (i := 2) (by decide)
  have r3 := h1.cell (i := 3) (by decide)
  have r4 := h1.cell (i := 4) (by decide)
  have r5 := h1.cell (i := 5) (by decide)
  have r6 := h1.cell (i := 6) (by decide)
  have r7 := h1.cell (i := 7) (by decide)
  have s0 := h2.cell (i := 0) (by decide)
  have s1 := h2.cell (i := 1) (by decide)
  have s2 := h2.cell (i := 2) (by decide)
  have s3 := h2.cell (i := 3) (by decide)
  have s4 := h2.cell (i := 4) (by decide)
  have s5 := h2.cell (i := 5) (by decide)
  have s6 := h2.cell (i := 6) (by decide)
  have s7 := h2.cell (i := 7) (by decide)
  have t0 := h3.cell (i := 0) (by decide)
  have t1 := h3.cell (i := 1) (by decide)
  have t2 := h3.cell (i := 2) (by decide)
  have t3 := h3.cell (i := 3) (by decide)
  have t4 := h3.cell (i := 4) (by decide)
  have t5 := h3.cell (i := 5) (by decide)
  have t6 := h3.cell (i := 6) (by decide)
  have t7 := h3.cell (i := 7) (by decide)
  have u0 := h4.cell (i := 0) (by decide)
  have u1 := h4.cell (i := 1) (by decide)
  have u2 := h4.cell (i := 2) (by decide)
  have u3 := h4.cell (i := 3) (by decide)
  have u4 := h4.cell (i := 4) (by decide)
  have u5 := h4.cell (i := 5) (by decide)
  have u6 := h4.cell (i := 6) (by decide)
  have u7 := h4.cell (i := 7) (by decide)
  have q1 := fun w => eq23_same f w
  have q2 := fun w => eq23_same g w
  have HS := hide' hS
  have HK := hide' hK
  have HB := hide' hB
  have HN := hide' hnil
  clear hS hK hB h1 h2 h3 h4 hnil
  refine seq_hid fun K1 HK1 => ?_
  go_wp2_with fail
  refine HK1.out _ _ ?_
  clear HK1
  refine seq_hid fun K2 HK2 => ?_
  have heq := fun (a : Option Addr) (l cc : Nat) (w : World) => Lib.run_eql_slice_nil (P := Yba.prog) w 22 24 a l cc 0 0 Yba.underlying22
  cases a with
  | none =>
    cases a' with
    | some x => exact absurd HN.out (by simp)
    | none =>
      go_wp2_with fail
      exact HK2.out _ _ (t11 w0 w hn HS.out HK.out HB.out)
  | some y =>
    cases a' with
    | none => exact absurd HN.out (by simp)
    | some x =>
      go_wp2_with fail
      exact HK2.out _ _ (t11 w0 w hn HS.out HK.out HB.out)
end Go.Proofs.Ybulkdvyw
