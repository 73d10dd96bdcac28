import Derived.Test.YbulkdvyiZ6
namespace Go.Proofs.Ybulkdvyi
open Go.RowKit Go.MuLone
set_option maxRecDepth 1000000 in
set_option maxHeartbeats 4000000 in
theorem tail7 (w0 w : World) {c2 c3 c4 c5 c6 c7 c8 c9 c10 c11 c12 c13 c14 c15 c16 c17 c18 c19 c20 c21 c22 c23 c24 c30 c31 c32 c33 c34 c35 c36 c37 c38 c39 c40 c41 c42 c43 c44 c45 c46 c47 c48 c49 c50 c51 c52 c53 c54 c55 c56 c57 c58 c59 c60 c61 c62 c63 c64 c65 c66 c67 c68 c69 c70 c71 c72 c73 c74 c75 c76 c77 c78 c79 c80 c81 c82 c83 c84 c85 c86 c87 c88 c89 c90 c91 c92 c93 c94 c95 c96 c97 c98 c99 c100 c101 c102 c103 c104 c105 c106 c107 c108 c109 c110 c111 c112 c113 c114 c115 c116 c117 c118 c119 c120 c121 c122 c123 c124 c125 c126 c127 c128 c129 c130 c131 c132 c133 c134 c135 c136 c137 c138 c139 c140 c141 c142 c143 c144 c145 c146 c147 c148 c149 c150 c151 c152 : Value} {m wb b gb n : Nat} {c1' c2' : Nat} {a1 a2 : Option Addr} {dir nm u : ByteArray} {t1 t2 s1 s2 s3 s4 lv ver sm : Int} {S : Nat → ByteArray} (hn : n ≤ 1048576) (hnil : a1.isNone = a2.isNone) (hnl : a1 = none → n = 0) (hsp : ∀ x, a1 = some x → ∃ g, x = ⟨g, 0, none⟩)
    (hB : BB w b dir nm m 0 sm) (hM : MB w m (mcells u t1 t2 s1 s2 s3 s4 lv (.slice a1 n c1') ver)) (hW : MB w wb (mcells u t1 t2 s1 s2 s3 s4 lv (.slice a2 n c2') ver)) (hG : MB w gb (mcells u t1 t2 s1 s2 s3 s4 lv (.slice a1 n c1') ver))
    (h1 : CA w a1 n fun j => .string (S j)) (h2 : CA w a2 n fun j => .string (S j)) (hwb : w0.heap.size ≤ b) (hL : Below w0.heap.size w0 w) :
    Code.wp Yba.prog (sndN 7 (Yba.f3.body.getD .skip)) (bodyPost Yba.prog Yba.f3 (fun e w' => e = .returned (.bool true) ∧ Below w0.heap.size w0 w')) ⟨#[.string dir, .string nm, c2, c3, c4, c5, c6, c7, c8, c9, c10, c11, c12, c13, c14, c15, c16, c17, c18, c19, c20, c21, c22, c23, c24, .slice a1 n c1', .pointer (some ⟨m, 0, none⟩), .pointer (some ⟨wb, 0, none⟩), .pointer (some ⟨b, 0, none⟩), .pointer (some ⟨gb, 0, none⟩), c30, c31, c32, c33, c34, c35, c36, c37, c38, c39, c40, c41, c42, c43, c44, c45, c46, c47, c48, c49, c50, c51, c52, c53, c54, c55, c56, c57, c58, c59, c60, c61, c62, c63, c64, c65, c66, c67, c68, c69, c70, c71, c72, c73, c74, c75, c76, c77, c78, c79, c80, c81, c82, c83, c84, c85, c86, c87, c88, c89, c90, c91, c92, c93, c94, c95, c96, c97, c98, c99, c100, c101, c102, c103, c104, c105, c106, c107, c108, c109, c110, c111, c112, c113, c114, c115, c116, c117, c118, c119, c120, c121, c122, c123, c124, c125, c126, c127, c128, c129, c130, c131, c132, c133, c134, c135, c136, c137, c138, c139, c140, c141, c142, c143, c144, c145, c146, c147, c148, c149, c150, c151, c152], []⟩ w := by
  show Code.wp _ (Code.seq _ _) _ _ _
  have HB := hide' hB
  have HM := hide' hM
  have HW := hide' hW
  have HG := hide' hG
  have H1 := hide' h1
  have H2 := hide' h2
  have HL := hide' hL
  have HNI := hide' hnil
  have HNL := hide' hnl
  have HSP := hide' hsp
  clear hB hM hW hG h1 h2 hL hnil hnl hsp
  refine seq_hid fun K1 HK1 => ?_
  obtain ⟨g0, g1, g2, g3, g4, g5, g6, g7, g8, g9⟩ := HG.out.cell
  obtain ⟨v0, v1, v2, v3, v4, v5, v6, v7, v8, v9⟩ := HW.out.cell
  go_wp2_with fail
  refine (meq u t1 t2 s1 s2 s3 s4 lv ver c1' c2' hn HNI.out H1.out H2.out).mono ?_
  rintro e w1 ⟨rfl, hb1⟩
  have HB1 := hide' hb1
  clear hb1
  clear g0 g1 g2 g3 g4 g5 g6 g7 g8 g9 v0 v1 v2 v3 v4 v5 v6 v7 v8 v9
  go_wp2_with fail
  refine HK1.out _ _ ?_
  clear HK1
  refine seq_hid fun K2 HK2 => ?_
  have hgb : gb < w.heap.size := (Array.getElem?_eq_some_iff.1 HG.out).1
  have hbw : b < w.heap.size := (Array.getElem?_eq_some_iff.1 HB.out).1
  have hmw : m < w.heap.size := (Array.getElem?_eq_some_iff.1 HM.out).1
  have hww : wb < w.heap.size := (Array.getElem?_eq_some_iff.1 HW.out).1
  have g8 := (HB1.out.cell (p := ⟨gb, 8, none⟩) hgb).trans HG.out.cell.2.2.2.2.2.2.2.2.1
  have hq1 := fun (a : Addr) (w : World) => neq_same (k := 0) Yba.underlying49 Yba.sizeOf9 a w
  have hb := HB1.out
  have HBE := hide' hb
  clear hb
  by_cases h0 : n = 0
  · have hd : decide ((0 : Int) < (n : Int)) = false := decide_eq_false (by omega)
    have hd' : decide (0 < n) = false := decide_eq_false (by omega)
    go_wp2_with fail
    go_quiet (fail)
    go_wp2_with fail
    have hb := HBE.out
    exact HK2.out _ _ (tail9 w0 (w1.drewN nq) hn HNI.out ((hb.block b hbw).trans HB.out) ((hb.block m hmw).trans HM.out) ((hb.block wb hww).trans HW.out) ((H1.out.kept hb).drewN _) ((H2.out.kept hb).drewN _) hwb (below_drewN (HL.out.trans (hb.mono HL.out.size)) _))
  · obtain ⟨g, rfl⟩ : ∃ g, a1 = some ⟨g, 0, none⟩ := by
      cases ha : a1 with
      | none => exact absurd (HNL.out ha) h0
      | some x =>
        obtain ⟨g, hg⟩ := HSP.out x ha
        exact ⟨g, by rw [hg]⟩
    have hpos : (0 : Int) < (n : Int) := by omega
    have hpos' : 0 < n := by omega
    go_wp2_with fail
    go_quiet (fail)
    go_wp2_with fail
    have hb := HBE.out
    exact HK2.out _ _ (tail9 w0 (w1.drewN nq) hn HNI.out ((hb.block b hbw).trans HB.out) ((hb.block m hmw).trans HM.out) ((hb.block wb hww).trans HW.out) ((H1.out.kept hb).drewN _) ((H2.out.kept hb).drewN _) hwb (below_drewN (HL.out.trans (hb.mono HL.out.size)) _))
end Go.Proofs.Ybulkdvyi
