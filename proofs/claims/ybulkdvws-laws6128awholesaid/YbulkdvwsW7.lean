import Derived.Test.YbulkdvwsW6
namespace Go.Proofs.Ybulkdvws
open Go.RowKit

theorem last_cell {w : World} {g cnt : Nat} {cur : Array Value} {xs : List Value} (hG : w.heap[g]? = some (.cells cur 34 (0, 0))) (ht : cur.toList.take ((cnt + 1) * 9) = pres cnt ++ xs) (i : Nat) (hi : i < 9) : w.cell? ⟨g, cnt * 9 + i, none⟩ = xs[i]? := by
  rw [cell_of_row w g (cnt * 9 + i) cur 34 (0, 0) hG]
  have h : (cur.toList.take ((cnt + 1) * 9))[cnt * 9 + i]? = xs[i]? := by
    rw [ht, List.getElem?_append_right (by rw [pres_len]; omega), pres_len]
    congr 1; omega
  rw [← h, List.getElem?_take, if_pos (by omega)]
  simp

theorem take_pres {cur : Array Value} {cnt : Nat} {xs : List Value} (ht : cur.toList.take ((cnt + 1) * 9) = pres cnt ++ xs) : cur.toList.take (cnt * 9) = pres cnt := by
  have h := congrArg (List.take (cnt * 9)) ht
  rw [List.take_take, Nat.min_eq_left (by omega)] at h
  rw [h, List.take_append_of_le_length (by rw [pres_len]; omega), ← pres_len cnt, List.take_length]

set_option maxRecDepth 1000000 in
set_option maxHeartbeats 4000000 in
theorem e6 (w0 w : World) {c0 c1 c2 c3 c5 c6 c7 c8 c9 c10 c11 c12 c13 c14 c16 c18 c19 c20 c22 c23 c24 c25 c26 c27 c29 c30 c31 c32 c33 c34 c35 c36 c37 c38 c39 c40 c41 c42 c43 c44 c45 c46 c47 c48 c49 c50 c51 c52 c53 c54 c55 c56 c57 c58 c59 c60 c61 c62 c63 c64 c65 c66 c67 c68 c69 c70 c71 c72 c73 c74 c75 c76 c77 c78 c79 c80 c81 c82 c83 c84 c85 c86 c87 c88 c89 c90 c91 c92 c93 c94 c95 c96 c97 c98 c99 c100 c101 c102 c103 c104 c105 c106 c107 c108 c109 c110 c111 c112 c113 c114 c115 c116 c117 c118 c119 c120 c121 c122 c123 c124 c125 c126 c127 c128 c129 c130 c131 c132 c133 c134 c135 c136 c137 c138 c139 c140 c141 c142 c143 c144 c145 c146 c147 c148 c149 c150 c151 c152 c153 c154 c155 c156 c157 c158 c159 c160 c161 c162 c163 c164 c165 c166 c167 c168 c169 c170 c171 c172 c173 c174 c175 c176 c177 c178 c179 c180 c181 c182 c183 c184 c185 c186 c187 c188 c189 c190 c191 c192 c193 c194 c195 c196 c197 c198 c199 c200 c201 c202 c203 c204 c205 c206 c207 c208 c209 c210 c211 c212 c213 c214 c215 c216 c217 c218 c219 c220 c221 c222 c223 c224 c225 c226 c227 c228 c229 c230 c231 c232 c233 c234 c235 c236 c237 c238 c239 c240 c241 c242 c243 c244 c245 c246 c247 c248 c249 c250 c251 c252 c253 c254 c255 c256 c257 c258 c259 c260 c261 c262 c263 c264 c265 c266 c267 c268 c269 c270 c271 c272 c273 c274 c275 c276 c277 c278 c279 c280 c281 c282 c283 c284 c285 c286 c287 c288 c289 c290 c291 c292 c293 c294 c295 c296 c297 c298 c299 c300 c301 c302 c303 c304 c305 c306 c307 c308 c309 c310 c311 c312 c313 c314 c315 c316 c317 c318 c319 c320 c321 c322 c323 c324 c325 c326 c327 c328 c329 c330 c331 c332 c333 c334 c335 c336 c337 c338 c339 c340 c341 c342 c343 c344 c345 c346 c347 c348 c349 c350 c351 c352 c353 c354 c355 c356 c357 c358 c359 c360 c361 c362 c363 : Value} (K : Act → World → Prop) (HK : Hid (∀ a w, (sndN 18 (Yba.f3.body.getD .skip)).wp Yba.prog (bodyPost Yba.prog Yba.f3 (fun e w' => e = .returned (.bool true) ∧ Below w0.heap.size w0 w')) a w → K a w))
    (c g cap cnt bIn bw rn n4 c4' tc sc rc x0 x1 a0 a1 X1 X2 X3 X4 : Nat) (a4 ta sa ra : Option Addr) (cur : Array Value) (op out alv ar ar2 st sl d : Int) (tl : Bool) (jv : Value) (ls hs : List Nat) (zs : List Int) (hcnt : cnt < 16384) (hrn : rn ≤ 1048576) (hn4 : n4 ≤ 1048576)
    (hC : CBlock w c (.slice (some ⟨g, 0, none⟩) (cnt + 1) cap) st sl d (.slice ta n4 tc) tl)
    (hG : w.heap[g]? = some (.cells cur 34 (0, 0))) (ht : cur.toList.take ((cnt + 1) * 9) = pres cnt ++ newCells op out alv ar ar2 (.slice sa rn sc) a0 a1 (.slice ta n4 tc))
    (hI : InBox w bIn op out alv ar ar2 (.slice ra rn rc) x0 x1 jv) (hW : w.heap[bw]? = some (.cells #[.int .u64 (a0 : Nat), .int .u64 (a1 : Nat)] 26 (0, 0)))
    (r1 : RA X1 w sa rn ls hs) (r2 : RA X2 w ra rn ls hs) (i1 : IA X3 w ta n4 zs) (i2 : IA X4 w a4 n4 zs) (hB : Below w0.heap.size w0 w) :
    Code.wp Yba.prog (sndN 6 (elseC (fstC (sndN 17 (Yba.f3.body.getD .skip))))) (Exit.then K (bodyPost Yba.prog Yba.f3 (fun e w' => e = .returned (.bool true) ∧ Below w0.heap.size w0 w'))) ⟨#[c0, c1, c2, c3, .slice a4 n4 c4', c5, c6, c7, c8, c9, c10, c11, c12, c13, c14, .pointer (some ⟨bIn, 0, none⟩), c16, .int .i64 (cnt : Nat), c18, c19, c20, .pointer (some ⟨c, 0, none⟩), c22, c23, c24, c25, c26, c27, .pointer (some ⟨bw, 0, none⟩), c29, c30, c31, c32, c33, c34, c35, c36, c37, c38, c39, c40, c41, c42, c43, c44, c45, c46, c47, c48, c49, c50, c51, c52, c53, c54, c55, c56, c57, c58, c59, c60, c61, c62, c63, c64, c65, c66, c67, c68, c69, c70, c71, c72, c73, c74, c75, c76, c77, c78, c79, c80, c81, c82, c83, c84, c85, c86, c87, c88, c89, c90, c91, c92, c93, c94, c95, c96, c97, c98, c99, c100, c101, c102, c103, c104, c105, c106, c107, c108, c109, c110, c111, c112, c113, c114, c115, c116, c117, c118, c119, c120, c121, c122, c123, c124, c125, c126, c127, c128, c129, c130, c131, c132, c133, c134, c135, c136, c137, c138, c139, c140, c141, c142, c143, c144, c145, c146, c147, c148, c149, c150, c151, c152, c153, c154, c155, c156, c157, c158, c159, c160, c161, c162, c163, c164, c165, c166, c167, c168, c169, c170, c171, c172, c173, c174, c175, c176, c177, c178, c179, c180, c181, c182, c183, c184, c185, c186, c187, c188, c189, c190, c191, c192, c193, c194, c195, c196, c197, c198, c199, c200, c201, c202, c203, c204, c205, c206, c207, c208, c209, c210, c211, c212, c213, c214, c215, c216, c217, c218, c219, c220, c221, c222, c223, c224, c225, c226, c227, c228, c229, c230, c231, c232, c233, c234, c235, c236, c237, c238, c239, c240, c241, c242, c243, c244, c245, c246, c247, c248, c249, c250, c251, c252, c253, c254, c255, c256, c257, c258, c259, c260, c261, c262, c263, c264, c265, c266, c267, c268, c269, c270, c271, c272, c273, c274, c275, c276, c277, c278, c279, c280, c281, c282, c283, c284, c285, c286, c287, c288, c289, c290, c291, c292, c293, c294, c295, c296, c297, c298, c299, c300, c301, c302, c303, c304, c305, c306, c307, c308, c309, c310, c311, c312, c313, c314, c315, c316, c317, c318, c319, c320, c321, c322, c323, c324, c325, c326, c327, c328, c329, c330, c331, c332, c333, c334, c335, c336, c337, c338, c339, c340, c341, c342, c343, c344, c345, c346, c347, c348, c349, c350, c351, c352, c353, c354, c355, c356, c357, c358, c359, c360, c361, c362, c363], []⟩ w := by
  show Code.wp _ (Code.seq _ _) _ _ _
  have hcw : c < w.heap.size := (Array.getElem?_eq_some_iff.1 hC).1
  have hgw : g < w.heap.size := (Array.getElem?_eq_some_iff.1 hG).1
  have hiw : bIn < w.heap.size := (Array.getElem?_eq_some_iff.1 hI).1
  have hww : bw < w.heap.size := (Array.getElem?_eq_some_iff.1 hW).1
  obtain ⟨h0, -, h5, -, -⟩ := hC.cell
  have q0 : w.cell? ⟨g, cnt * 9, none⟩ = _ := last_cell hG ht 0 (by omega)
  have q1 := last_cell hG ht 1 (by omega)
  have q2 := last_cell hG ht 2 (by omega)
  have q3 := last_cell hG ht 3 (by omega)
  have q4 := last_cell hG ht 4 (by omega)
  have q5 := last_cell hG ht 5 (by omega)
  have q6 := last_cell hG ht 6 (by omega)
  have q7 := last_cell hG ht 7 (by omega)
  have q8 := last_cell hG ht 8 (by omega)
  simp only [newCells, List.getElem?_cons_zero, List.getElem?_cons_succ] at q0 q1 q2 q3 q4 q5 q6 q7 q8
  obtain ⟨y0, y1, y2, y3, y4, y5, y6, y7, y8⟩ := hI.all
  have v0 : w.cell? ⟨bw, 0, none⟩ = some (.int .u64 (a0 : Nat)) := by simp [World.cell?, hW]
  have v1 : w.cell? ⟨bw, 1, none⟩ = some (.int .u64 (a1 : Nat)) := by simp [World.cell?, hW]
  have he := eq26n
  have hcc : (cnt : Int) < (cnt : Int) + 1 := by omega
  have HC := hide' hC
  have HG := hide' hG
  have HT := hide' ht
  have R1 := hide' r1
  have R2 := hide' r2
  have I1 := hide' i1
  have I2 := hide' i2
  have HB := hide' hB
  clear hC hG ht r1 r2 i1 i2 hB hI hW
  go_wp2_with fail
  refine (set_any sc rc hrn (R1.out.alloc _) (R2.out.alloc _)).mono ?_
  rintro e w1 ⟨rfl, p1, rfl⟩
  go_wp2_with fail
  refine (ints_any tc c4' hn4 ((I1.out.alloc _).drewN _) ((I2.out.alloc _).drewN _)).mono ?_
  rintro e w1 ⟨rfl, p2, rfl⟩
  go_wp2_with fail
  refine HK.out _ _ (tail18 w0 _ c g (cnt + 1) cap cnt cur st sl d (.slice ta n4 tc) tl (by omega) (by omega) ?_ ?_ (take_pres HT.out) ?_)
  · show (w.alloc _).heap[c]? = _
    rw [Below.heap_alloc _ _ _ hcw]; exact HC.out
  · show (w.alloc _).heap[g]? = _
    rw [Below.heap_alloc _ _ _ hgw]; exact HG.out
  · exact below_drewN (HB.out.alloc HB.out.size _) _
end Go.Proofs.Ybulkdvws
