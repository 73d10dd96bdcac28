import Derived.Test.YbulkdvyiZ4
import Derived.Laws.Pointers
namespace Go.Proofs.Ybulkdvyi
open Go.RowKit Go.MuLone

def sndN : Nat → Code → Code
  | 0, c => c
  | n + 1, .seq _ b => sndN n b
  | _ + 1, c => c
theorem seq_hid {P : Program} {x y : Code} {Q : Exit → Act → World → Prop} {a : Act} {w : World} (h : ∀ K : Act → World → Prop, Hid (∀ a w, y.wp P Q a w → K a w) → x.wp P (Exit.then K Q) a w) : (Code.seq x y).wp P Q a w :=
  wp_seq_k fun K hK => h K hK
theorem neq_same {t e : TypeId} {k : Nat} (ht : Yba.prog.underlying t = some (.pointer e)) (hz : ∀ w, Sem.run Yba.prog (sizeOf e) w = .ok (k + 1) w) (a : Addr) (w : World) : (binOp .neq t (.pointer (some a)) (.pointer (some a))).run Yba.prog w = .ok (.bool false) w := by
  have h : ∀ d, (Op.equalIn (d + 1) t (.pointer (some a)) (.pointer (some a))).run Yba.prog w = .ok true w := by
    intro d
    simp [Op.equalIn, run_underlying ht, hz, sameAddr]
  have h2 := h 9999
  show Sem.run Yba.prog (Op.equalIn 10000 t (.pointer (some a)) (.pointer (some a)) >>= _) w = _
  rw [Sem.run_bind, h2]
  rfl

set_option maxRecDepth 1000000 in
set_option maxHeartbeats 4000000 in
theorem tail10 (w0 w : World) {c0 c1 c2 c3 c4 c5 c6 c7 c8 c9 c10 c11 c12 c13 c14 c15 c16 c17 c18 c19 c20 c21 c22 c23 c24 c25 c26 c27 c29 c30 c31 c32 c33 c34 c35 c36 c37 c38 c39 c40 c41 c42 c43 c44 c45 c46 c47 c48 c49 c50 c51 c52 c53 c54 c55 c56 c57 c58 c59 c60 c61 c62 c63 c64 c65 c66 c67 c68 c69 c70 c71 c72 c73 c74 c75 c76 c77 c78 c79 c80 c81 c82 c83 c84 c85 c86 c87 c88 c89 c90 c91 c92 c93 c94 c95 c96 c97 c98 c99 c100 c101 c102 c103 c104 c105 c106 c107 c108 c109 c110 c111 c112 c113 c114 c115 c116 c117 c118 c119 c120 c121 c122 c123 c124 c125 c126 c127 c128 c129 c130 c131 c132 c133 c134 c135 c136 c137 c138 c139 c140 c141 c142 c143 c144 c145 c146 c147 c148 c149 c150 c151 c152 : Value} {m b : Nat} {dir nm : ByteArray} {sm : Int} (hB : BB w b dir nm m 0 sm) (hwb : w0.heap.size ≤ b) (hL : Below w0.heap.size w0 w) :
    Code.wp Yba.prog (sndN 10 (Yba.f3.body.getD .skip)) (bodyPost Yba.prog Yba.f3 (fun e w' => e = .returned (.bool true) ∧ Below w0.heap.size w0 w')) ⟨#[c0, c1, c2, c3, c4, c5, c6, c7, c8, c9, c10, c11, c12, c13, c14, c15, c16, c17, c18, c19, c20, c21, c22, c23, c24, c25, c26, c27, .pointer (some ⟨b, 0, none⟩), c29, c30, c31, c32, c33, c34, c35, c36, c37, c38, c39, c40, c41, c42, c43, c44, c45, c46, c47, c48, c49, c50, c51, c52, c53, c54, c55, c56, c57, c58, c59, c60, c61, c62, c63, c64, c65, c66, c67, c68, c69, c70, c71, c72, c73, c74, c75, c76, c77, c78, c79, c80, c81, c82, c83, c84, c85, c86, c87, c88, c89, c90, c91, c92, c93, c94, c95, c96, c97, c98, c99, c100, c101, c102, c103, c104, c105, c106, c107, c108, c109, c110, c111, c112, c113, c114, c115, c116, c117, c118, c119, c120, c121, c122, c123, c124, c125, c126, c127, c128, c129, c130, c131, c132, c133, c134, c135, c136, c137, c138, c139, c140, c141, c142, c143, c144, c145, c146, c147, c148, c149, c150, c151, c152], []⟩ w := by
  show Code.wp _ (Code.seq _ _) _ _ _
  have HL := hide' hL
  obtain ⟨e0, e1, e2, e3, e5, e6, e7, e8, f3⟩ := hB.cell
  clear hB hL
  have hn1 := fun (a : Option Addr) (l cc : Nat) (w : World) => run_neq_slice_nil_any (P := Yba.prog) w 40 5 a l cc 0 0 Yba.underlying40
  have hn2 := fun (r : Option Nat) (w : World) => run_neq_map_nil (P := Yba.prog) w 44 35 94 r Yba.underlying44
  go_wp2_with fail
  refine (try_free ⟨b, 3, none⟩ w e3 f3).mono ?_
  rintro e w1 ⟨rfl, rfl⟩
  go_wp2_with fail
  refine (unlock_held muLib ⟨b, 3, none⟩ _ ?_ ?_).mono ?_
  · exact World.cell?_setCell_same w ⟨b, 3, none⟩ (.int .i32 1) e3
  · simp [f3]
  rintro e w2 ⟨rfl, rfl⟩
  go_wp2_with fail
  go_ret
  exact ⟨rfl, (HL.out.setCell hwb _).setCell hwb _⟩
end Go.Proofs.Ybulkdvyi
