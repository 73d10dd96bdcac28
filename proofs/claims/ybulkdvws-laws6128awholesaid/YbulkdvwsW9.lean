import Derived.Test.YbulkdvwsW8
namespace Go.Proofs.Ybulkdvws
open Go.RowKit

theorem CBlock.more {w : World} {c : Nat} {iv tv : Value} {st sl d : Int} {tl : Bool} (h : CBlock w c iv st sl d tv tl) :
    w.cell? ⟨c, 1, none⟩ = some (.int .i64 st) ∧ w.cell? ⟨c, 2, none⟩ = some (.int .i64 sl) ∧ w.cell? ⟨c, 4, none⟩ = some (.pointer none) ∧ w.cell? ⟨c, 6, none⟩ = some (.bool tl) ∧ w.frozen? ⟨c, 6, none⟩ = false := by
  unfold CBlock at h
  refine ⟨?_, ?_, ?_, ?_, ?_⟩ <;> simp [World.cell?, World.frozen?, h]

set_option maxRecDepth 1000000 in
set_option maxHeartbeats 4000000 in
theorem t17_full (w0 w : World) {c0 c1 c4 c5 c6 c7 c8 c9 c10 c11 c12 c13 c14 c15 c16 c18 c19 c20 c22 c23 c24 c25 c27 c28 c29 c30 c31 c32 c33 c34 c35 c36 c37 c38 c39 c40 c41 c42 c43 c44 c45 c46 c47 c48 c49 c50 c51 c52 c53 c54 c55 c56 c57 c58 c59 c60 c61 c62 c63 c64 c65 c66 c67 c68 c69 c70 c71 c72 c73 c74 c75 c76 c77 c78 c79 c80 c81 c82 c83 c84 c85 c86 c87 c88 c89 c90 c91 c92 c93 c94 c95 c96 c97 c98 c99 c100 c101 c102 c103 c104 c105 c106 c107 c108 c109 c110 c111 c112 c113 c114 c115 c116 c117 c118 c119 c120 c121 c122 c123 c124 c125 c126 c127 c128 c129 c130 c131 c132 c133 c134 c135 c136 c137 c138 c139 c140 c141 c142 c143 c144 c145 c146 c147 c148 c149 c150 c151 c152 c153 c154 c155 c156 c157 c158 c159 c160 c161 c162 c163 c164 c165 c166 c167 c168 c169 c170 c171 c172 c173 c174 c175 c176 c177 c178 c179 c180 c181 c182 c183 c184 c185 c186 c187 c188 c189 c190 c191 c192 c193 c194 c195 c196 c197 c198 c199 c200 c201 c202 c203 c204 c205 c206 c207 c208 c209 c210 c211 c212 c213 c214 c215 c216 c217 c218 c219 c220 c221 c222 c223 c224 c225 c226 c227 c228 c229 c230 c231 c232 c233 c234 c235 c236 c237 c238 c239 c240 c241 c242 c243 c244 c245 c246 c247 c248 c249 c250 c251 c252 c253 c254 c255 c256 c257 c258 c259 c260 c261 c262 c263 c264 c265 c266 c267 c268 c269 c270 c271 c272 c273 c274 c275 c276 c277 c278 c279 c280 c281 c282 c283 c284 c285 c286 c287 c288 c289 c290 c291 c292 c293 c294 c295 c296 c297 c298 c299 c300 c301 c302 c303 c304 c305 c306 c307 c308 c309 c310 c311 c312 c313 c314 c315 c316 c317 c318 c319 c320 c321 c322 c323 c324 c325 c326 c327 c328 c329 c330 c331 c332 c333 c334 c335 c336 c337 c338 c339 c340 c341 c342 c343 c344 c345 c346 c347 c348 c349 c350 c351 c352 c353 c354 c355 c356 c357 c358 c359 c360 c361 c362 c363 : Value} (c g cap cnt : Nat) (cur : Array Value) (st sl d0 : Int) (tl0 : Bool) (tv : Value) (hcnt : cnt ≤ 16386) (hbig : 16384 ≤ cnt) (hC : CBlock w c (.slice (some ⟨g, 0, none⟩) cnt cap) st sl d0 tv true)
    (hG : w.heap[g]? = some (.cells cur 34 (0, 0))) (ht : cur.toList.take (cnt * 9) = pres cnt) (hB : Below w0.heap.size w0 w) :
    Code.wp Yba.prog (sndN 17 (Yba.f3.body.getD .skip)) (bodyPost Yba.prog Yba.f3 (fun e w' => e = .returned (.bool true) ∧ Below w0.heap.size w0 w')) ⟨#[c0, c1, .int .i64 d0, .bool tl0, c4, c5, c6, c7, c8, c9, c10, c11, c12, c13, c14, c15, c16, .int .i64 (cnt : Nat), c18, c19, c20, .pointer (some ⟨c, 0, none⟩), c22, c23, c24, c25, .int .i64 0, c27, c28, c29, c30, c31, c32, c33, c34, c35, c36, c37, c38, c39, c40, c41, c42, c43, c44, c45, c46, c47, c48, c49, c50, c51, c52, c53, c54, c55, c56, c57, c58, c59, c60, c61, c62, c63, c64, c65, c66, c67, c68, c69, c70, c71, c72, c73, c74, c75, c76, c77, c78, c79, c80, c81, c82, c83, c84, c85, c86, c87, c88, c89, c90, c91, c92, c93, c94, c95, c96, c97, c98, c99, c100, c101, c102, c103, c104, c105, c106, c107, c108, c109, c110, c111, c112, c113, c114, c115, c116, c117, c118, c119, c120, c121, c122, c123, c124, c125, c126, c127, c128, c129, c130, c131, c132, c133, c134, c135, c136, c137, c138, c139, c140, c141, c142, c143, c144, c145, c146, c147, c148, c149, c150, c151, c152, c153, c154, c155, c156, c157, c158, c159, c160, c161, c162, c163, c164, c165, c166, c167, c168, c169, c170, c171, c172, c173, c174, c175, c176, c177, c178, c179, c180, c181, c182, c183, c184, c185, c186, c187, c188, c189, c190, c191, c192, c193, c194, c195, c196, c197, c198, c199, c200, c201, c202, c203, c204, c205, c206, c207, c208, c209, c210, c211, c212, c213, c214, c215, c216, c217, c218, c219, c220, c221, c222, c223, c224, c225, c226, c227, c228, c229, c230, c231, c232, c233, c234, c235, c236, c237, c238, c239, c240, c241, c242, c243, c244, c245, c246, c247, c248, c249, c250, c251, c252, c253, c254, c255, c256, c257, c258, c259, c260, c261, c262, c263, c264, c265, c266, c267, c268, c269, c270, c271, c272, c273, c274, c275, c276, c277, c278, c279, c280, c281, c282, c283, c284, c285, c286, c287, c288, c289, c290, c291, c292, c293, c294, c295, c296, c297, c298, c299, c300, c301, c302, c303, c304, c305, c306, c307, c308, c309, c310, c311, c312, c313, c314, c315, c316, c317, c318, c319, c320, c321, c322, c323, c324, c325, c326, c327, c328, c329, c330, c331, c332, c333, c334, c335, c336, c337, c338, c339, c340, c341, c342, c343, c344, c345, c346, c347, c348, c349, c350, c351, c352, c353, c354, c355, c356, c357, c358, c359, c360, c361, c362, c363], []⟩ w := by
  show Code.wp _ (Code.seq _ _) _ _ _
  obtain ⟨h0, h3, -, -, -⟩ := hC.cell
  obtain ⟨-, -, -, h6, -⟩ := hC.more
  have HC := hide' hC
  have HG := hide' hG
  have HT := hide' ht
  have HB := hide' hB
  clear hC hG ht hB
  have hb' : (16384 : Int) ≤ (cnt : Int) := by omega
  refine seq_hid fun K HK => ?_
  go_wp2_with fail
  exact HK.out _ _ (tail18 w0 w c g cnt cap cnt cur st sl d0 tv true hcnt (Nat.le_refl _) HC.out HG.out HT.out HB.out)

set_option maxRecDepth 1000000 in
set_option maxHeartbeats 4000000 in
theorem t17_grow (w0 w : World) {c0 c1 c5 c6 c7 c8 c9 c10 c11 c12 c13 c14 c16 c18 c19 c20 c22 c23 c24 c25 c27 c28 c29 c30 c31 c32 c33 c34 c35 c36 c37 c38 c39 c40 c41 c42 c43 c44 c45 c46 c47 c48 c49 c50 c51 c52 c53 c54 c55 c56 c57 c58 c59 c60 c61 c62 c63 c64 c65 c66 c67 c68 c69 c70 c71 c72 c73 c74 c75 c76 c77 c78 c79 c80 c81 c82 c83 c84 c85 c86 c87 c88 c89 c90 c91 c92 c93 c94 c95 c96 c97 c98 c99 c100 c101 c102 c103 c104 c105 c106 c107 c108 c109 c110 c111 c112 c113 c114 c115 c116 c117 c118 c119 c120 c121 c122 c123 c124 c125 c126 c127 c128 c129 c130 c131 c132 c133 c134 c135 c136 c137 c138 c139 c140 c141 c142 c143 c144 c145 c146 c147 c148 c149 c150 c151 c152 c153 c154 c155 c156 c157 c158 c159 c160 c161 c162 c163 c164 c165 c166 c167 c168 c169 c170 c171 c172 c173 c174 c175 c176 c177 c178 c179 c180 c181 c182 c183 c184 c185 c186 c187 c188 c189 c190 c191 c192 c193 c194 c195 c196 c197 c198 c199 c200 c201 c202 c203 c204 c205 c206 c207 c208 c209 c210 c211 c212 c213 c214 c215 c216 c217 c218 c219 c220 c221 c222 c223 c224 c225 c226 c227 c228 c229 c230 c231 c232 c233 c234 c235 c236 c237 c238 c239 c240 c241 c242 c243 c244 c245 c246 c247 c248 c249 c250 c251 c252 c253 c254 c255 c256 c257 c258 c259 c260 c261 c262 c263 c264 c265 c266 c267 c268 c269 c270 c271 c272 c273 c274 c275 c276 c277 c278 c279 c280 c281 c282 c283 c284 c285 c286 c287 c288 c289 c290 c291 c292 c293 c294 c295 c296 c297 c298 c299 c300 c301 c302 c303 c304 c305 c306 c307 c308 c309 c310 c311 c312 c313 c314 c315 c316 c317 c318 c319 c320 c321 c322 c323 c324 c325 c326 c327 c328 c329 c330 c331 c332 c333 c334 c335 c336 c337 c338 c339 c340 c341 c342 c343 c344 c345 c346 c347 c348 c349 c350 c351 c352 c353 c354 c355 c356 c357 c358 c359 c360 c361 c362 c363 : Value}
    (c g cap cnt bIn rn n4 c4' tc sc rc x0 x1 a0 a1 X1 X2 X3 X4 : Nat) (a4 ta sa ra : Option Addr) (cur : Array Value) (op out alv ar ar2 st sl d0 : Int) (tl : Bool) (jv : Value) (ls hs : List Nat) (zs : List Int) (hcnt : cnt < 16384) (hrn : rn ≤ 1048576) (hn4 : n4 ≤ 1048576)
    (hC : CBlock w c (.slice (some ⟨g, 0, none⟩) (cnt + 1) cap) st sl (max d0 n4) (.slice ta n4 tc) tl)
    (hG : w.heap[g]? = some (.cells cur 34 (0, 0))) (ht : cur.toList.take ((cnt + 1) * 9) = pres cnt ++ newCells op out alv ar ar2 (.slice sa rn sc) a0 a1 (.slice ta n4 tc))
    (hI : InBox w bIn op out alv ar ar2 (.slice ra rn rc) x0 x1 jv) (ha0 : a0 < 2 ^ 64) (ha1 : a1 < 2 ^ 64) (hx0 : x0 < 2 ^ 64) (hx1 : x1 < 2 ^ 64) (hls : ∀ j, ls.getD j 0 ≤ 65535) (hhs : ∀ j, hs.getD j 0 ≤ 65535)
    (htb : ∀ p, p < 128 → tb a0 a1 p = (tb x0 x1 p || anyR ls hs rn p))
    (r1 : RA X1 w sa rn ls hs) (r2 : RA X2 w ra rn ls hs) (i1 : IA X3 w ta n4 zs) (i2 : IA X4 w a4 n4 zs) (hB : Below w0.heap.size w0 w) :
    Code.wp Yba.prog (sndN 17 (Yba.f3.body.getD .skip)) (bodyPost Yba.prog Yba.f3 (fun e w' => e = .returned (.bool true) ∧ Below w0.heap.size w0 w')) ⟨#[c0, c1, .int .i64 d0, .bool tl, .slice a4 n4 c4', c5, c6, c7, c8, c9, c10, c11, c12, c13, c14, .pointer (some ⟨bIn, 0, none⟩), c16, .int .i64 (cnt : Nat), c18, c19, c20, .pointer (some ⟨c, 0, none⟩), c22, c23, c24, c25, .int .i64 (cnt : Nat), c27, c28, c29, c30, c31, c32, c33, c34, c35, c36, c37, c38, c39, c40, c41, c42, c43, c44, c45, c46, c47, c48, c49, c50, c51, c52, c53, c54, c55, c56, c57, c58, c59, c60, c61, c62, c63, c64, c65, c66, c67, c68, c69, c70, c71, c72, c73, c74, c75, c76, c77, c78, c79, c80, c81, c82, c83, c84, c85, c86, c87, c88, c89, c90, c91, c92, c93, c94, c95, c96, c97, c98, c99, c100, c101, c102, c103, c104, c105, c106, c107, c108, c109, c110, c111, c112, c113, c114, c115, c116, c117, c118, c119, c120, c121, c122, c123, c124, c125, c126, c127, c128, c129, c130, c131, c132, c133, c134, c135, c136, c137, c138, c139, c140, c141, c142, c143, c144, c145, c146, c147, c148, c149, c150, c151, c152, c153, c154, c155, c156, c157, c158, c159, c160, c161, c162, c163, c164, c165, c166, c167, c168, c169, c170, c171, c172, c173, c174, c175, c176, c177, c178, c179, c180, c181, c182, c183, c184, c185, c186, c187, c188, c189, c190, c191, c192, c193, c194, c195, c196, c197, c198, c199, c200, c201, c202, c203, c204, c205, c206, c207, c208, c209, c210, c211, c212, c213, c214, c215, c216, c217, c218, c219, c220, c221, c222, c223, c224, c225, c226, c227, c228, c229, c230, c231, c232, c233, c234, c235, c236, c237, c238, c239, c240, c241, c242, c243, c244, c245, c246, c247, c248, c249, c250, c251, c252, c253, c254, c255, c256, c257, c258, c259, c260, c261, c262, c263, c264, c265, c266, c267, c268, c269, c270, c271, c272, c273, c274, c275, c276, c277, c278, c279, c280, c281, c282, c283, c284, c285, c286, c287, c288, c289, c290, c291, c292, c293, c294, c295, c296, c297, c298, c299, c300, c301, c302, c303, c304, c305, c306, c307, c308, c309, c310, c311, c312, c313, c314, c315, c316, c317, c318, c319, c320, c321, c322, c323, c324, c325, c326, c327, c328, c329, c330, c331, c332, c333, c334, c335, c336, c337, c338, c339, c340, c341, c342, c343, c344, c345, c346, c347, c348, c349, c350, c351, c352, c353, c354, c355, c356, c357, c358, c359, c360, c361, c362, c363], []⟩ w := by
  show Code.wp _ (Code.seq _ _) _ _ _
  refine seq_hid fun K HK => ?_
  obtain ⟨h0, h3, -, -, -⟩ := hC.cell
  obtain ⟨-, -, -, h6, -⟩ := hC.more
  have HC := hide' hC
  have HG := hide' hG
  have HI := hide' hI
  have HT := hide' ht
  have R1 := hide' r1
  have R2 := hide' r2
  have I1 := hide' i1
  have I2 := hide' i2
  have HB := hide' hB
  have HTB := hide' htb
  have HLS := hide' hls
  have HHS := hide' hhs
  have hb' : ¬ (16384 : Int) ≤ (cnt : Int) := by omega
  clear hC hG ht r1 r2 i1 i2 hB hI htb hls hhs
  refine seq_hid fun K1 HK1 => ?_
  go_wp2_with fail
  refine HK1.out _ _ ?_
  clear HK1
  refine wp_cond_false (by first | rfl | simp [Act.eval] | (simp [Act.eval]; omega)) ?_
  refine seq_hid fun K2 HK2 => ?_
  go_wp2_with fail
  refine HK2.out _ _ ?_
  clear HK2
  refine seq_hid fun K3 HK3 => ?_
  go_wp2_with fail
  refine HK3.out _ _ ?_
  clear HK3
  by_cases hd : d0 < (n4 : Int)
  · have hmx : max d0 (n4 : Int) = (n4 : Int) := by omega
    refine seq_hid fun K4 HK4 => ?_
    go_wp2_with fail
    refine HK4.out _ _ ?_
    clear HK4
    refine seq_hid fun K5 HK5 => ?_
    go_wp2_with fail
    exact HK5.out _ _ (e4 w0 w K HK c g cap cnt bIn rn n4 c4' tc sc rc x0 x1 a0 a1 X1 X2 X3 X4 a4 ta sa ra cur op out alv ar ar2 st sl (max d0 n4) tl jv ls hs zs hcnt hrn hn4 HC.out HG.out HT.out HI.out ha0 ha1 hx0 hx1 HLS.out HHS.out HTB.out R1.out R2.out I1.out I2.out HB.out)
  · have hmx : max d0 (n4 : Int) = d0 := by omega
    refine seq_hid fun K4 HK4 => ?_
    go_wp2_with fail
    refine HK4.out _ _ ?_
    clear HK4
    refine seq_hid fun K5 HK5 => ?_
    go_wp2_with fail
    exact HK5.out _ _ (e4 w0 w K HK c g cap cnt bIn rn n4 c4' tc sc rc x0 x1 a0 a1 X1 X2 X3 X4 a4 ta sa ra cur op out alv ar ar2 st sl (max d0 n4) tl jv ls hs zs hcnt hrn hn4 HC.out HG.out HT.out HI.out ha0 ha1 hx0 hx1 HLS.out HHS.out HTB.out R1.out R2.out I1.out I2.out HB.out)
end Go.Proofs.Ybulkdvws
