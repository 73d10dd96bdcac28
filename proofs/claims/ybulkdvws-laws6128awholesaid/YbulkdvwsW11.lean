import Derived.Test.YbulkdvwsW10
namespace Go.Proofs.Ybulkdvws
open Go.RowKit

set_option maxRecDepth 1000000 in
set_option maxHeartbeats 4000000 in
theorem t14 (w0 w : World) {c0 c1 c7 c8 c9 c10 c11 c12 c13 c14 c16 c18 c19 c20 c23 c26 c27 c28 c29 c30 c31 c32 c33 c34 c35 c36 c37 c38 c39 c40 c41 c42 c43 c44 c45 c46 c47 c48 c49 c50 c51 c52 c53 c54 c55 c56 c57 c58 c59 c60 c61 c62 c63 c64 c65 c66 c67 c68 c69 c70 c71 c72 c73 c74 c75 c76 c77 c78 c79 c80 c81 c82 c83 c84 c85 c86 c87 c88 c89 c90 c91 c92 c93 c94 c95 c96 c97 c98 c99 c100 c101 c102 c103 c104 c105 c106 c107 c108 c109 c110 c111 c112 c113 c114 c115 c116 c117 c118 c119 c120 c121 c122 c123 c124 c125 c126 c127 c128 c129 c130 c131 c132 c133 c134 c135 c136 c137 c138 c139 c140 c141 c142 c143 c144 c145 c146 c147 c148 c149 c150 c151 c152 c153 c154 c155 c156 c157 c158 c159 c160 c161 c162 c163 c164 c165 c166 c167 c168 c169 c170 c171 c172 c173 c174 c175 c176 c177 c178 c179 c180 c181 c182 c183 c184 c185 c186 c187 c188 c189 c190 c191 c192 c193 c194 c195 c196 c197 c198 c199 c200 c201 c202 c203 c204 c205 c206 c207 c208 c209 c210 c211 c212 c213 c214 c215 c216 c217 c218 c219 c220 c221 c222 c223 c224 c225 c226 c227 c228 c229 c230 c231 c232 c233 c234 c235 c236 c237 c238 c239 c240 c241 c242 c243 c244 c245 c246 c247 c248 c249 c250 c251 c252 c253 c254 c255 c256 c257 c258 c259 c260 c261 c262 c263 c264 c265 c266 c267 c268 c269 c270 c271 c272 c273 c274 c275 c276 c277 c278 c279 c280 c281 c282 c283 c284 c285 c286 c287 c288 c289 c290 c291 c292 c293 c294 c295 c296 c297 c298 c299 c300 c301 c302 c303 c304 c305 c306 c307 c308 c309 c310 c311 c312 c313 c314 c315 c316 c317 c318 c319 c320 c321 c322 c323 c324 c325 c326 c327 c328 c329 c330 c331 c332 c333 c334 c335 c336 c337 c338 c339 c340 c341 c342 c343 c344 c345 c346 c347 c348 c349 c350 c351 c352 c353 c354 c355 c356 c357 c358 c359 c360 c361 c362 c363 : Value} (c g bIn ba cnt rn n4 jn c4' tc sc rc oc jc x0 x1 : Nat) (a4 ta sa ra oa ja : Option Addr) (op out alv ar ar2 st sl d0 : Int) (tl : Bool) (ls hs : List Nat) (zs js : List Int)
    (hcnt : cnt ≤ 16386) (hrn : rn ≤ 1048576) (hn4 : n4 ≤ 1048576) (hjn : jn ≤ 1048576) (hx0 : x0 < 2 ^ 64) (hx1 : x1 < 2 ^ 64) (hls : ∀ j, ls.getD j 0 ≤ 65535) (hhs : ∀ j, hs.getD j 0 ≤ 65535)
    (hC : CBlock w c (.slice (some ⟨g, 0, none⟩) cnt cnt) st sl d0 (.slice ta n4 tc) tl) (hgc : g ≠ c) (hic : bIn ≠ c) (hG : w.heap[g]? = some (.cells (pres cnt).toArray 34 (0, 0)))
    (hI : InBox w bIn op out alv ar ar2 (.slice ra rn rc) x0 x1 (.slice ja jn jc)) (hA : Box w ba op out alv ar ar2 (.slice sa rn sc) x0 x1 (.slice oa jn oc)) (hwc : w0.heap.size ≤ c)
    (r1 : RA c w sa rn ls hs) (r2 : RA c w ra rn ls hs) (i1 : IA c w ta n4 zs) (i2 : IA c w a4 n4 zs) (i3 : IA c w oa jn js) (i4 : IA c w ja jn js) (hB : Below w0.heap.size w0 w) :
    Code.wp Yba.prog (sndN 14 (Yba.f3.body.getD .skip)) (bodyPost Yba.prog Yba.f3 (fun e w' => e = .returned (.bool true) ∧ Below w0.heap.size w0 w')) ⟨#[c0, c1, .int .i64 d0, .bool tl, .slice a4 n4 c4', .int .i64 sl, .int .i64 st, c7, c8, c9, c10, c11, c12, c13, c14, .pointer (some ⟨bIn, 0, none⟩), c16, .int .i64 (cnt : Nat), c18, c19, c20, .pointer (some ⟨c, 0, none⟩), .slice sa rn sc, c23, .slice oa jn oc, .pointer (some ⟨ba, 0, none⟩), c26, c27, c28, c29, c30, c31, c32, c33, c34, c35, c36, c37, c38, c39, c40, c41, c42, c43, c44, c45, c46, c47, c48, c49, c50, c51, c52, c53, c54, c55, c56, c57, c58, c59, c60, c61, c62, c63, c64, c65, c66, c67, c68, c69, c70, c71, c72, c73, c74, c75, c76, c77, c78, c79, c80, c81, c82, c83, c84, c85, c86, c87, c88, c89, c90, c91, c92, c93, c94, c95, c96, c97, c98, c99, c100, c101, c102, c103, c104, c105, c106, c107, c108, c109, c110, c111, c112, c113, c114, c115, c116, c117, c118, c119, c120, c121, c122, c123, c124, c125, c126, c127, c128, c129, c130, c131, c132, c133, c134, c135, c136, c137, c138, c139, c140, c141, c142, c143, c144, c145, c146, c147, c148, c149, c150, c151, c152, c153, c154, c155, c156, c157, c158, c159, c160, c161, c162, c163, c164, c165, c166, c167, c168, c169, c170, c171, c172, c173, c174, c175, c176, c177, c178, c179, c180, c181, c182, c183, c184, c185, c186, c187, c188, c189, c190, c191, c192, c193, c194, c195, c196, c197, c198, c199, c200, c201, c202, c203, c204, c205, c206, c207, c208, c209, c210, c211, c212, c213, c214, c215, c216, c217, c218, c219, c220, c221, c222, c223, c224, c225, c226, c227, c228, c229, c230, c231, c232, c233, c234, c235, c236, c237, c238, c239, c240, c241, c242, c243, c244, c245, c246, c247, c248, c249, c250, c251, c252, c253, c254, c255, c256, c257, c258, c259, c260, c261, c262, c263, c264, c265, c266, c267, c268, c269, c270, c271, c272, c273, c274, c275, c276, c277, c278, c279, c280, c281, c282, c283, c284, c285, c286, c287, c288, c289, c290, c291, c292, c293, c294, c295, c296, c297, c298, c299, c300, c301, c302, c303, c304, c305, c306, c307, c308, c309, c310, c311, c312, c313, c314, c315, c316, c317, c318, c319, c320, c321, c322, c323, c324, c325, c326, c327, c328, c329, c330, c331, c332, c333, c334, c335, c336, c337, c338, c339, c340, c341, c342, c343, c344, c345, c346, c347, c348, c349, c350, c351, c352, c353, c354, c355, c356, c357, c358, c359, c360, c361, c362, c363], []⟩ w := by
  show Code.wp _ (Code.seq _ _) _ _ _
  have hcw : c < w.heap.size := (Array.getElem?_eq_some_iff.1 hC).1
  have hgw : g < w.heap.size := (Array.getElem?_eq_some_iff.1 hG).1
  have hiw : bIn < w.heap.size := (Array.getElem?_eq_some_iff.1 hI).1
  obtain ⟨y0, y1, y2, y3, y4, y5, y6, y7, y8⟩ := hA.all
  obtain ⟨h0, -, -, -, -⟩ := hC.cell
  obtain ⟨-, -, -, h6, f6⟩ := hC.more
  have HC := hide' hC
  have HG := hide' hG
  have HI := hide' hI
  have R1 := hide' r1
  have R2 := hide' r2
  have I1 := hide' i1
  have I2 := hide' i2
  have I3 := hide' i3
  have I4 := hide' i4
  have HB := hide' hB
  have HLS := hide' hls
  have HHS := hide' hhs
  have H0 := hide' h0
  have H6 := hide' h6
  have F6 := hide' f6
  clear hC hG r1 r2 i1 i2 i3 i4 hB hI hls hhs hA h0 h6 f6
  refine seq_hid fun K1 HK1 => ?_
  go_wp2_with fail
  by_cases hbig : 16384 ≤ cnt
  · refine (emit_full c (some ⟨g, 0, none⟩) cnt cnt op out alv ar ar2 x0 x1 sa oa rn sc jn oc tl w hbig H0.out H6.out F6.out).mono ?_
    rintro e w1 ⟨rfl, hw1⟩
    have HW1 := hide' hw1
    clear hw1
    go_wp2_with fail
    refine HK1.out _ _ ?_
    clear HK1
    have hw1 := HW1.out
    have hsz : w1.heap.size = w.heap.size + 1 := by rw [hw1]; simp [World.setCell]
    have hk : ∀ k, k < w.heap.size → k ≠ c → w1.heap[k]? = w.heap[k]? := fun k hk hne => by
      rw [hw1, Below.heap_alloc _ _ _ (by simpa [World.setCell] using hk), Below.heap_setCell _ _ _ _ hne]
    have hC1 : CBlock w1 c (.slice (some ⟨g, 0, none⟩) cnt cnt) st sl d0 (.slice ta n4 tc) true := by
      have := HC.out
      unfold CBlock at this ⊢
      rw [hw1, Below.heap_alloc _ _ _ (by simpa [World.setCell] using hcw)]
      simp [World.setCell, Array.getElem?_modify, this]
    have hB1 : Below w0.heap.size w0 w1 := by rw [hw1]; exact (HB.out.setCell hwc _).alloc (by have := HB.out.size; simpa [World.setCell] using this) _
    have hG1 := (hk g hgw hgc).trans HG.out
    have hI1 : InBox w1 bIn op out alv ar ar2 (.slice ra rn rc) x0 x1 (.slice ja jn jc) := (hk bIn hiw hic).trans HI.out
    exact t15 w0 w1 c bIn rn n4 jn c4' tc sc rc oc jc x0 x1 c c c c c c a4 ta sa ra oa ja _ op out alv ar ar2 st sl d0 true ls hs zs js hrn hn4 hjn hC1 hI1
      (R1.out.kept (.inl rfl) hk) (R2.out.kept (.inl rfl) hk) (I1.out.kept (.inl rfl) hk) (I2.out.kept (.inl rfl) hk) (I3.out.kept (.inl rfl) hk) (I4.out.kept (.inl rfl) hk)
      (by intro q; intro _ _ _ _ _ _ _ _ _ _ _ _ _ _ _ _ _ _ _ _ _ _ _ _ _ _ _ _ _ _ _ _ _ _ _ _ _ _ _ _ _ _ _ _ _; exact t17_full w0 (w1.drewN q) c g cnt cnt (pres cnt).toArray st sl d0 tl (.slice ta n4 tc) hcnt hbig hC1 hG1 (by rw [← pres_len cnt]; simp) (below_drewN hB1 _))
  · refine (emit_grow c g cnt (pres cnt) op out alv ar ar2 st sl d0 tl x0 x1 sa oa ta rn sc jn oc n4 tc ls hs w (by omega) hrn hx0 hx1 HLS.out HHS.out HC.out hgc HG.out (pres_len cnt) ?_).mono ?_
    · intro hpos
      rcases R1.out with h | ⟨b, off, hr, _, h1, h2⟩
      · omega
      · exact ⟨b, off, hr, World.block_lt_of_cell? w _ (h1 0 hpos), h1, h2⟩
    rintro e w1 ⟨rfl, hpost⟩
    have HP := hide' hpost
    clear hpost
    go_wp2_with fail
    refine HK1.out _ _ ?_
    clear HK1
    obtain ⟨g', cap', a0, a1, cur, ha0, ha1, htb, hg', hG', htk, hC1, hgr⟩ := HP.out
    have hk : ∀ k, k < w.heap.size → k ≠ c → w1.heap[k]? = w.heap[k]? := fun k hk hne => hgr.block k hk (by simpa using hne)
    have hB1 : Below w0.heap.size w0 w1 := HB.out.trans ⟨hgr.os, hgr.tape, hgr.output, hgr.size, fun k hk' => hk k (by have := HB.out.size; omega) (by omega)⟩
    have hI1 : InBox w1 bIn op out alv ar ar2 (.slice ra rn rc) x0 x1 (.slice ja jn jc) := (hk bIn hiw hic).trans HI.out
    have r1' := R1.out.kept (.inl rfl) hk
    have r2' := R2.out.kept (.inl rfl) hk
    have i1' := I1.out.kept (.inl rfl) hk
    have i2' := I2.out.kept (.inl rfl) hk
    exact t15 w0 w1 c bIn rn n4 jn c4' tc sc rc oc jc x0 x1 c c c c c c a4 ta sa ra oa ja _ op out alv ar ar2 st sl (max d0 n4) tl ls hs zs js hrn hn4 hjn hC1 hI1
      r1' r2' i1' i2' (I3.out.kept (.inl rfl) hk) (I4.out.kept (.inl rfl) hk)
      (by intro q; intro _ _ _ _ _ _ _ _ _ _ _ _ _ _ _ _ _ _ _ _ _ _ _ _ _ _ _ _ _ _ _ _ _ _ _ _ _ _ _ _ _ _ _ _ _; exact t17_grow w0 (w1.drewN q) c g' cap' cnt bIn rn n4 c4' tc sc rc x0 x1 a0 a1 c c c c a4 ta sa ra cur op out alv ar ar2 st sl d0 tl _ ls hs zs (by omega) hrn hn4 hC1 hG' htk hI1 ha0 ha1 hx0 hx1 HLS.out HHS.out htb r1' r2' i1' i2' (below_drewN hB1 _))
end Go.Proofs.Ybulkdvws
