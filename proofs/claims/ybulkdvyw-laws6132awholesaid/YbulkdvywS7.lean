import Derived.Test.YbulkdvywS6
namespace Go.Proofs.Ybulkdvyw
open Go.RowKit

theorem alloc_size (w : World) (o : Obj) : (w.alloc o).heap.size = w.heap.size + 1 := by simp
theorem AB.new (w : World) (f : Nat → Int) : AB (w.alloc (.cells #[.int .i64 (f 0), .int .i64 (f 1), .int .i64 (f 2), .int .i64 (f 3), .int .i64 (f 4), .int .i64 (f 5), .int .i64 (f 6), .int .i64 (f 7)] 23)) w.heap.size f := by
  refine ⟨_, heap_alloc_new w _, rfl, fun i hi => ?_⟩
  obtain rfl | rfl | rfl | rfl | rfl | rfl | rfl | rfl : i = 0 ∨ i = 1 ∨ i = 2 ∨ i = 3 ∨ i = 4 ∨ i = 5 ∨ i = 6 ∨ i = 7 := by omega
  all_goals rfl
theorem AB.old {w w' : World} {b : Nat} {f : Nat → Int} (p : AB w b f) (hb : Below w.heap.size w w') : AB w' b f := p.of_block (hb.block b p.lt)

set_option maxRecDepth 1000000 in
set_option maxHeartbeats 4000000 in
theorem t6 (w0 w : World) {c1 c2 c3 c6 c10 c11 c12 c13 c14 c15 c16 c17 c18 c19 c20 c21 c22 c23 c24 c25 c26 c27 c28 c29 c30 c31 c32 c33 c34 c35 c36 c37 c38 c39 c40 c41 c42 c43 c44 c45 c46 c47 c48 c49 c50 c51 c52 c53 c54 c55 c56 c57 c58 c59 c60 c61 c62 c63 c64 c65 c66 c67 c68 c69 c70 c71 c72 c73 c74 c75 c76 c77 c78 c79 c80 c81 c82 c83 c84 c85 c86 c87 c88 c89 c90 c91 c92 c93 c94 c95 c96 c97 c98 c99 c100 c101 c102 c103 c104 c105 c106 c107 c108 c109 c110 c111 c112 c113 c114 c115 c116 c117 c118 c119 c120 c121 c122 c123 c124 c125 c126 c127 c128 c129 c130 c131 c132 c133 c134 c135 c136 c137 c138 c139 c140 c141 c142 c143 c144 c145 c146 c147 c148 c149 c150 c151 c152 c153 : Value} {a a' : Option Addr} {n c c' eR eC bR bC : Nat} {xs : Nat → Nat} {f g : Nat → Int} (hn : n ≤ 1048576) (hx : ∀ j, j < n → xs j < 18446744073709551616)
    (hS : CA w a n fun j => .int .u64 ((xs j : Nat) : Int)) (hK : CA w a' n fun j => .int .u64 ((xs j : Nat) : Int)) (hnil : a.isNone = a'.isNone)
    (h1 : AB w bR f) (h2 : AB w eR (upd f (fun q => acc (fun j => lane (xs j) q) n) 4)) (h3 : AB w bC g) (h4 : AB w eC (upd g (fun q => acc (fun j => lane (tr (xs j)) q) n) 4)) (hB : Below w0.heap.size w0 w) :
    Code.wp Yba.prog (sndN 6 (Yba.f3.body.getD .skip)) (bodyPost Yba.prog Yba.f3 (fun e w' => e = .returned (.bool true) ∧ Below w0.heap.size w0 w')) ⟨#[.slice a n c, c1, c2, c3, .pointer (some ⟨bC, 0, none⟩), .pointer (some ⟨bR, 0, none⟩), c6, .slice a' n c', .pointer (some ⟨eR, 0, none⟩), .pointer (some ⟨eC, 0, none⟩), c10, c11, c12, c13, c14, c15, c16, c17, c18, c19, c20, c21, c22, c23, c24, c25, c26, c27, c28, c29, c30, c31, c32, c33, c34, c35, c36, c37, c38, c39, c40, c41, c42, c43, c44, c45, c46, c47, c48, c49, c50, c51, c52, c53, c54, c55, c56, c57, c58, c59, c60, c61, c62, c63, c64, c65, c66, c67, c68, c69, c70, c71, c72, c73, c74, c75, c76, c77, c78, c79, c80, c81, c82, c83, c84, c85, c86, c87, c88, c89, c90, c91, c92, c93, c94, c95, c96, c97, c98, c99, c100, c101, c102, c103, c104, c105, c106, c107, c108, c109, c110, c111, c112, c113, c114, c115, c116, c117, c118, c119, c120, c121, c122, c123, c124, c125, c126, c127, c128, c129, c130, c131, c132, c133, c134, c135, c136, c137, c138, c139, c140, c141, c142, c143, c144, c145, c146, c147, c148, c149, c150, c151, c152, c153], []⟩ w := by
  show Code.wp _ (Code.seq _ _) _ _ _
  have t0 := h3.cell (i := 0) (by decide)
  have t1 := h3.cell (i := 1) (by decide)
  have t2 := h3.cell (i := 2) (by decide)
  have t3 := h3.cell (i := 3) (by decide)
  have t4 := h3.cell (i := 4) (by decide)
  have t5 := h3.cell (i := 5) (by decide)
  have t6 := h3.cell (i := 6) (by decide)
  have t7 := h3.cell (i := 7) (by decide)
  have HX := hide' hx
  have HS := hide' hS
  have HK := hide' hK
  have HB := hide' hB
  have HN := hide' hnil
  have H1 := hide' h1
  have H2 := hide' h2
  have H3 := hide' h3
  have H4 := hide' h4
  clear hx hS hK hB h1 h2 h3 h4 hnil
  refine seq_hid fun K1 HK1 => ?_
  go_wp2_with fail
  refine HK1.out _ _ ?_
  clear HK1 t0 t1 t2 t3 t4 t5 t6 t7
  have G := AB.new w g
  have L : Below w.heap.size w (w.alloc (.cells #[.int .i64 (g 0), .int .i64 (g 1), .int .i64 (g 2), .int .i64 (g 3), .int .i64 (g 4), .int .i64 (g 5), .int .i64 (g 6), .int .i64 (g 7)] 23)) := (Below.refl _ _).alloc (Nat.le_refl _) _
  have Z : (w.alloc (.cells #[.int .i64 (g 0), .int .i64 (g 1), .int .i64 (g 2), .int .i64 (g 3), .int .i64 (g 4), .int .i64 (g 5), .int .i64 (g 6), .int .i64 (g 7)] 23)).heap.size = w.heap.size + 1 := alloc_size _ _
  generalize w.alloc (.cells #[.int .i64 (g 0), .int .i64 (g 1), .int .i64 (g 2), .int .i64 (g 3), .int .i64 (g 4), .int .i64 (g 5), .int .i64 (g 6), .int .i64 (g 7)] 23) = w1 at G L Z ⊢
  have r0 := (H1.out.old L).cell (i := 0) (by decide)
  have r1 := (H1.out.old L).cell (i := 1) (by decide)
  have r2 := (H1.out.old L).cell (i := 2) (by decide)
  have r3 := (H1.out.old L).cell (i := 3) (by decide)
  have r4 := (H1.out.old L).cell (i := 4) (by decide)
  have r5 := (H1.out.old L).cell (i := 5) (by decide)
  have r6 := (H1.out.old L).cell (i := 6) (by decide)
  have r7 := (H1.out.old L).cell (i := 7) (by decide)
  replace G := hide' G
  replace L := hide' L
  refine seq_hid fun K2 HK2 => ?_
  go_wp2_with fail
  refine HK2.out _ _ ?_
  clear HK2 r0 r1 r2 r3 r4 r5 r6 r7
  have R := AB.new w1 f
  have L2 : Below w1.heap.size w1 (w1.alloc (.cells #[.int .i64 (f 0), .int .i64 (f 1), .int .i64 (f 2), .int .i64 (f 3), .int .i64 (f 4), .int .i64 (f 5), .int .i64 (f 6), .int .i64 (f 7)] 23)) := (Below.refl _ _).alloc (Nat.le_refl _) _
  generalize w1.alloc (.cells #[.int .i64 (f 0), .int .i64 (f 1), .int .i64 (f 2), .int .i64 (f 3), .int .i64 (f 4), .int .i64 (f 5), .int .i64 (f 6), .int .i64 (f 7)] 23) = w2 at R L2 ⊢
  have G2 := G.out.old L2
  have LL : Below w.heap.size w w2 := L.out.trans (L2.mono (by omega))
  have HC := hide' (read_runs w2 (c := c) (m := w.heap.size) (bC := w.heap.size) (bR := w1.heap.size) HX.out hn (HS.out.kept LL) G2 R (by omega) (Nat.le_refl _) (by omega))
  replace LL := hide' LL
  clear G L R L2 G2
  rw [Z] at HC
  refine seq_hid fun K3 HK3 => ?_
  go_wp2_with (go_at_call 6; refine HC.out.mono ?_; rintro e w' ⟨rfl, hgC, hgR, -, hbl⟩; have HG := hide' hgC; have HR := hide' hgR; have HL := hide' (LL.out.trans hbl); clear hgC hgR hbl)
  exact HK3.out _ _ (t9 w0 w' hn (HS.out.kept HL.out) (HK.out.kept HL.out) HN.out (H2.out.old HL.out) HR.out (H4.out.old HL.out) HG.out (HB.out.trans (HL.out.mono HB.out.size)))
end Go.Proofs.Ybulkdvyw
