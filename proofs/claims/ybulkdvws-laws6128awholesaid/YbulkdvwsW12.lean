import Derived.Test.YbulkdvwsW11
import Derived.Laws.CopyOwn
namespace Go.Proofs.Ybulkdvws
open Go.RowKit

theorem Box.mk (w : World) (op out alv ar ar2 : Int) (sv iv : Value) (a0 a1 : Nat) : Box (w.alloc (.cells #[.int .u8 op, .int .i64 out, .int .i64 alv, .int .i64 ar, .int .i64 ar2, sv, .int .u64 (a0 : Nat), .int .u64 (a1 : Nat), iv] 34)) w.heap.size op out alv ar ar2 sv a0 a1 iv := heap_alloc_new w _

set_option maxRecDepth 1000000 in
set_option maxHeartbeats 4000000 in
theorem t13 (w0 w : World) {c0 c1 c7 c8 c9 c10 c11 c12 c13 c14 c16 c18 c19 c20 c23 c25 c26 c27 c28 c29 c30 c31 c32 c33 c34 c35 c36 c37 c38 c39 c40 c41 c42 c43 c44 c45 c46 c47 c48 c49 c50 c51 c52 c53 c54 c55 c56 c57 c58 c59 c60 c61 c62 c63 c64 c65 c66 c67 c68 c69 c70 c71 c72 c73 c74 c75 c76 c77 c78 c79 c80 c81 c82 c83 c84 c85 c86 c87 c88 c89 c90 c91 c92 c93 c94 c95 c96 c97 c98 c99 c100 c101 c102 c103 c104 c105 c106 c107 c108 c109 c110 c111 c112 c113 c114 c115 c116 c117 c118 c119 c120 c121 c122 c123 c124 c125 c126 c127 c128 c129 c130 c131 c132 c133 c134 c135 c136 c137 c138 c139 c140 c141 c142 c143 c144 c145 c146 c147 c148 c149 c150 c151 c152 c153 c154 c155 c156 c157 c158 c159 c160 c161 c162 c163 c164 c165 c166 c167 c168 c169 c170 c171 c172 c173 c174 c175 c176 c177 c178 c179 c180 c181 c182 c183 c184 c185 c186 c187 c188 c189 c190 c191 c192 c193 c194 c195 c196 c197 c198 c199 c200 c201 c202 c203 c204 c205 c206 c207 c208 c209 c210 c211 c212 c213 c214 c215 c216 c217 c218 c219 c220 c221 c222 c223 c224 c225 c226 c227 c228 c229 c230 c231 c232 c233 c234 c235 c236 c237 c238 c239 c240 c241 c242 c243 c244 c245 c246 c247 c248 c249 c250 c251 c252 c253 c254 c255 c256 c257 c258 c259 c260 c261 c262 c263 c264 c265 c266 c267 c268 c269 c270 c271 c272 c273 c274 c275 c276 c277 c278 c279 c280 c281 c282 c283 c284 c285 c286 c287 c288 c289 c290 c291 c292 c293 c294 c295 c296 c297 c298 c299 c300 c301 c302 c303 c304 c305 c306 c307 c308 c309 c310 c311 c312 c313 c314 c315 c316 c317 c318 c319 c320 c321 c322 c323 c324 c325 c326 c327 c328 c329 c330 c331 c332 c333 c334 c335 c336 c337 c338 c339 c340 c341 c342 c343 c344 c345 c346 c347 c348 c349 c350 c351 c352 c353 c354 c355 c356 c357 c358 c359 c360 c361 c362 c363 : Value} (c g bIn cnt rn n4 jn c4' tc sc rc oc jc x0 x1 : Nat) (a4 ta sa ra oa ja : Option Addr) (op out alv ar ar2 st sl d0 : Int) (tl : Bool) (ls hs : List Nat) (zs js : List Int)
    (hcnt : cnt ≤ 16386) (hrn : rn ≤ 1048576) (hn4 : n4 ≤ 1048576) (hjn : jn ≤ 1048576) (hx0 : x0 < 2 ^ 64) (hx1 : x1 < 2 ^ 64) (hls : ∀ j, ls.getD j 0 ≤ 65535) (hhs : ∀ j, hs.getD j 0 ≤ 65535)
    (hC : CBlock w c (.slice (some ⟨g, 0, none⟩) cnt cnt) st sl d0 (.slice ta n4 tc) tl) (hgc : g ≠ c) (hic : bIn ≠ c) (hG : w.heap[g]? = some (.cells (pres cnt).toArray 34 (0, 0)))
    (hI : InBox w bIn op out alv ar ar2 (.slice ra rn rc) x0 x1 (.slice ja jn jc)) (hwc : w0.heap.size ≤ c)
    (r1 : RA c w sa rn ls hs) (r2 : RA c w ra rn ls hs) (i1 : IA c w ta n4 zs) (i2 : IA c w a4 n4 zs) (i3 : IA c w oa jn js) (i4 : IA c w ja jn js) (hB : Below w0.heap.size w0 w) :
    Code.wp Yba.prog (sndN 13 (Yba.f3.body.getD .skip)) (bodyPost Yba.prog Yba.f3 (fun e w' => e = .returned (.bool true) ∧ Below w0.heap.size w0 w')) ⟨#[c0, c1, .int .i64 d0, .bool tl, .slice a4 n4 c4', .int .i64 sl, .int .i64 st, c7, c8, c9, c10, c11, c12, c13, c14, .pointer (some ⟨bIn, 0, none⟩), c16, .int .i64 (cnt : Nat), c18, c19, c20, .pointer (some ⟨c, 0, none⟩), .slice sa rn sc, c23, .slice oa jn oc, c25, c26, c27, c28, c29, c30, c31, c32, c33, c34, c35, c36, c37, c38, c39, c40, c41, c42, c43, c44, c45, c46, c47, c48, c49, c50, c51, c52, c53, c54, c55, c56, c57, c58, c59, c60, c61, c62, c63, c64, c65, c66, c67, c68, c69, c70, c71, c72, c73, c74, c75, c76, c77, c78, c79, c80, c81, c82, c83, c84, c85, c86, c87, c88, c89, c90, c91, c92, c93, c94, c95, c96, c97, c98, c99, c100, c101, c102, c103, c104, c105, c106, c107, c108, c109, c110, c111, c112, c113, c114, c115, c116, c117, c118, c119, c120, c121, c122, c123, c124, c125, c126, c127, c128, c129, c130, c131, c132, c133, c134, c135, c136, c137, c138, c139, c140, c141, c142, c143, c144, c145, c146, c147, c148, c149, c150, c151, c152, c153, c154, c155, c156, c157, c158, c159, c160, c161, c162, c163, c164, c165, c166, c167, c168, c169, c170, c171, c172, c173, c174, c175, c176, c177, c178, c179, c180, c181, c182, c183, c184, c185, c186, c187, c188, c189, c190, c191, c192, c193, c194, c195, c196, c197, c198, c199, c200, c201, c202, c203, c204, c205, c206, c207, c208, c209, c210, c211, c212, c213, c214, c215, c216, c217, c218, c219, c220, c221, c222, c223, c224, c225, c226, c227, c228, c229, c230, c231, c232, c233, c234, c235, c236, c237, c238, c239, c240, c241, c242, c243, c244, c245, c246, c247, c248, c249, c250, c251, c252, c253, c254, c255, c256, c257, c258, c259, c260, c261, c262, c263, c264, c265, c266, c267, c268, c269, c270, c271, c272, c273, c274, c275, c276, c277, c278, c279, c280, c281, c282, c283, c284, c285, c286, c287, c288, c289, c290, c291, c292, c293, c294, c295, c296, c297, c298, c299, c300, c301, c302, c303, c304, c305, c306, c307, c308, c309, c310, c311, c312, c313, c314, c315, c316, c317, c318, c319, c320, c321, c322, c323, c324, c325, c326, c327, c328, c329, c330, c331, c332, c333, c334, c335, c336, c337, c338, c339, c340, c341, c342, c343, c344, c345, c346, c347, c348, c349, c350, c351, c352, c353, c354, c355, c356, c357, c358, c359, c360, c361, c362, c363], []⟩ w := by
  show Code.wp _ (Code.seq _ _) _ _ _
  have hcw : c < w.heap.size := (Array.getElem?_eq_some_iff.1 hC).1
  have hgw : g < w.heap.size := (Array.getElem?_eq_some_iff.1 hG).1
  have hiw : bIn < w.heap.size := (Array.getElem?_eq_some_iff.1 hI).1
  obtain ⟨y0, y1, y2, y3, y4, y5, y6, y7, y8⟩ := hI.all
  have HC := hide' hC
  have HG := hide' hG
  have HI := hide' hI
  have R1 := hide' r1
  have R2 := hide' r2
  have I1 := hide' i1
  have I2 := hide' i2
  have I3 := hide' i3
  have I4 := hide' i4
  have HB := hide' hB
  have HLS := hide' hls
  have HHS := hide' hhs
  clear hC hG r1 r2 i1 i2 i3 i4 hB hI hls hhs
  refine seq_hid fun K1 HK1 => ?_
  go_wp2_with fail
  refine HK1.out _ _ ?_
  have hk : ∀ (o : Obj) k, k < w.heap.size → (w.alloc o).heap[k]? = w.heap[k]? := fun o k hk => Below.heap_alloc _ _ _ hk
  exact t14 w0 _ c g bIn w.heap.size cnt rn n4 jn c4' tc sc rc oc jc x0 x1 a4 ta sa ra oa ja op out alv ar ar2 st sl d0 tl ls hs zs js hcnt hrn hn4 hjn hx0 hx1 HLS.out HHS.out
    ((hk _ c hcw).trans HC.out) hgc hic ((hk _ g hgw).trans HG.out) ((hk _ bIn hiw).trans HI.out) (Box.mk _ _ _ _ _ _ _ _ _ _) hwc (R1.out.alloc _) (R2.out.alloc _) (I1.out.alloc _) (I2.out.alloc _) (I3.out.alloc _) (I4.out.alloc _) (HB.out.alloc HB.out.size _)

theorem Yba.info3 : (Yba.prog.info? 3).map (fun i => (i.zero, i.size, i.bytes)) = some (some (.int .i64 0), 1, 8) := by kernel_rfl
theorem Yba.size3 : (Yba.prog.info? 3).map (·.size) = some 1 := by kernel_rfl

theorem made_row {w w1 : World} {n : Nat} {xs : List Value} (h : w1.ownsRow w.heap.size 3 1 (.slice (some ⟨w.heap.size, 0, none⟩) n n) n xs) : ∃ cur : List Value, w1.heap[w.heap.size]? = some (.cells cur.toArray 3 (0, 0)) ∧ cur.length = n := by
  rcases h.2 with ⟨h, _⟩ | ⟨g, cap, cur, hv, _, hh, _, _, hs, _⟩
  · simp at h
  · simp only [Value.slice.injEq, Option.some.injEq, Addr.mk.injEq, and_true, true_and] at hv
    obtain ⟨rfl, rfl⟩ := hv
    exact ⟨cur.toList, by simpa using hh, by simpa using hs⟩
theorem src_cells {X n : Nat} {w w1 : World} {av : Addr} {js : List Int} (hb : Below w.heap.size w w1) (h : IA X w (some av) n js) : ∀ j v, ((List.range n).map fun j => Value.int .i64 (js.getD j 0))[j]? = some v → w1.cell? (av.add j) = some v := by
  intro j v hv
  by_cases hj : j < n
  · rcases h with h | ⟨b, off, hb', _, hc⟩
    · omega
    · simp only [Option.some.injEq] at hb'
      subst hb'
      have hlt : b < w.heap.size := World.block_lt_of_cell? w _ (hc j hj)
      rw [add_plain, hb.cell (p := ⟨b, off + j, none⟩) hlt, hc j hj]
      simpa [List.getElem?_range hj] using hv
  · simp [hj] at hv
theorem copied_row {X g : Nat} {w2 : World} {cur : List Value} {n : Nat} {zs : List Int} (hX : g ≠ X) (h : w2.heap[g]? = some (.cells (splice cur 0 ((List.range n).map fun j => Value.int .i64 (zs.getD j 0))).toArray 3 (0, 0))) : IA X w2 (some ⟨g, 0, none⟩) n zs := by
  refine .inr ⟨g, 0, rfl, hX, fun j hj => ?_⟩
  rw [cell_of_row w2 g (0 + j) _ 3 (0, 0) h]
  simp [splice, hj, List.getElem?_append_left]

set_option maxRecDepth 1000000 in
set_option maxHeartbeats 4000000 in
theorem t11 (w0 w : World) {c0 c1 c7 c8 c9 c10 c11 c12 c13 c14 c16 c18 c19 c20 c23 c24 c25 c26 c27 c28 c29 c30 c31 c32 c33 c34 c35 c36 c37 c38 c39 c40 c41 c42 c43 c44 c45 c46 c47 c48 c49 c50 c51 c52 c53 c54 c55 c56 c57 c58 c59 c60 c61 c62 c63 c64 c65 c66 c67 c68 c69 c70 c71 c72 c73 c74 c75 c76 c77 c78 c79 c80 c81 c82 c83 c84 c85 c86 c87 c88 c89 c90 c91 c92 c93 c94 c95 c96 c97 c98 c99 c100 c101 c102 c103 c104 c105 c106 c107 c108 c109 c110 c111 c112 c113 c114 c115 c116 c117 c118 c119 c120 c121 c122 c123 c124 c125 c126 c127 c128 c129 c130 c131 c132 c133 c134 c135 c136 c137 c138 c139 c140 c141 c142 c143 c144 c145 c146 c147 c148 c149 c150 c151 c152 c153 c154 c155 c156 c157 c158 c159 c160 c161 c162 c163 c164 c165 c166 c167 c168 c169 c170 c171 c172 c173 c174 c175 c176 c177 c178 c179 c180 c181 c182 c183 c184 c185 c186 c187 c188 c189 c190 c191 c192 c193 c194 c195 c196 c197 c198 c199 c200 c201 c202 c203 c204 c205 c206 c207 c208 c209 c210 c211 c212 c213 c214 c215 c216 c217 c218 c219 c220 c221 c222 c223 c224 c225 c226 c227 c228 c229 c230 c231 c232 c233 c234 c235 c236 c237 c238 c239 c240 c241 c242 c243 c244 c245 c246 c247 c248 c249 c250 c251 c252 c253 c254 c255 c256 c257 c258 c259 c260 c261 c262 c263 c264 c265 c266 c267 c268 c269 c270 c271 c272 c273 c274 c275 c276 c277 c278 c279 c280 c281 c282 c283 c284 c285 c286 c287 c288 c289 c290 c291 c292 c293 c294 c295 c296 c297 c298 c299 c300 c301 c302 c303 c304 c305 c306 c307 c308 c309 c310 c311 c312 c313 c314 c315 c316 c317 c318 c319 c320 c321 c322 c323 c324 c325 c326 c327 c328 c329 c330 c331 c332 c333 c334 c335 c336 c337 c338 c339 c340 c341 c342 c343 c344 c345 c346 c347 c348 c349 c350 c351 c352 c353 c354 c355 c356 c357 c358 c359 c360 c361 c362 c363 : Value} (c g bIn cnt rn n4 jn c4' tc sc rc jc x0 x1 : Nat) (a4 ta sa ra ja : Option Addr) (op out alv ar ar2 st sl d0 : Int) (tl : Bool) (ls hs : List Nat) (zs js : List Int)
    (hcnt : cnt ≤ 16386) (hrn : rn ≤ 1048576) (hn4 : n4 ≤ 1048576) (hjn : jn ≤ 1048576) (hx0 : x0 < 2 ^ 64) (hx1 : x1 < 2 ^ 64) (hls : ∀ j, ls.getD j 0 ≤ 65535) (hhs : ∀ j, hs.getD j 0 ≤ 65535) (hnil : ja = none → jn = 0 ∧ jc = 0)
    (hC : CBlock w c (.slice (some ⟨g, 0, none⟩) cnt cnt) st sl d0 (.slice ta n4 tc) tl) (hgc : g ≠ c) (hic : bIn ≠ c) (hG : w.heap[g]? = some (.cells (pres cnt).toArray 34 (0, 0)))
    (hI : InBox w bIn op out alv ar ar2 (.slice ra rn rc) x0 x1 (.slice ja jn jc)) (hwc : w0.heap.size ≤ c)
    (r1 : RA c w sa rn ls hs) (r2 : RA c w ra rn ls hs) (i1 : IA c w ta n4 zs) (i2 : IA c w a4 n4 zs) (i4 : IA c w ja jn js) (hB : Below w0.heap.size w0 w) :
    Code.wp Yba.prog (sndN 11 (Yba.f3.body.getD .skip)) (bodyPost Yba.prog Yba.f3 (fun e w' => e = .returned (.bool true) ∧ Below w0.heap.size w0 w')) ⟨#[c0, c1, .int .i64 d0, .bool tl, .slice a4 n4 c4', .int .i64 sl, .int .i64 st, c7, c8, c9, c10, c11, c12, c13, c14, .pointer (some ⟨bIn, 0, none⟩), c16, .int .i64 (cnt : Nat), c18, c19, c20, .pointer (some ⟨c, 0, none⟩), .slice sa rn sc, c23, c24, c25, c26, c27, c28, c29, c30, c31, c32, c33, c34, c35, c36, c37, c38, c39, c40, c41, c42, c43, c44, c45, c46, c47, c48, c49, c50, c51, c52, c53, c54, c55, c56, c57, c58, c59, c60, c61, c62, c63, c64, c65, c66, c67, c68, c69, c70, c71, c72, c73, c74, c75, c76, c77, c78, c79, c80, c81, c82, c83, c84, c85, c86, c87, c88, c89, c90, c91, c92, c93, c94, c95, c96, c97, c98, c99, c100, c101, c102, c103, c104, c105, c106, c107, c108, c109, c110, c111, c112, c113, c114, c115, c116, c117, c118, c119, c120, c121, c122, c123, c124, c125, c126, c127, c128, c129, c130, c131, c132, c133, c134, c135, c136, c137, c138, c139, c140, c141, c142, c143, c144, c145, c146, c147, c148, c149, c150, c151, c152, c153, c154, c155, c156, c157, c158, c159, c160, c161, c162, c163, c164, c165, c166, c167, c168, c169, c170, c171, c172, c173, c174, c175, c176, c177, c178, c179, c180, c181, c182, c183, c184, c185, c186, c187, c188, c189, c190, c191, c192, c193, c194, c195, c196, c197, c198, c199, c200, c201, c202, c203, c204, c205, c206, c207, c208, c209, c210, c211, c212, c213, c214, c215, c216, c217, c218, c219, c220, c221, c222, c223, c224, c225, c226, c227, c228, c229, c230, c231, c232, c233, c234, c235, c236, c237, c238, c239, c240, c241, c242, c243, c244, c245, c246, c247, c248, c249, c250, c251, c252, c253, c254, c255, c256, c257, c258, c259, c260, c261, c262, c263, c264, c265, c266, c267, c268, c269, c270, c271, c272, c273, c274, c275, c276, c277, c278, c279, c280, c281, c282, c283, c284, c285, c286, c287, c288, c289, c290, c291, c292, c293, c294, c295, c296, c297, c298, c299, c300, c301, c302, c303, c304, c305, c306, c307, c308, c309, c310, c311, c312, c313, c314, c315, c316, c317, c318, c319, c320, c321, c322, c323, c324, c325, c326, c327, c328, c329, c330, c331, c332, c333, c334, c335, c336, c337, c338, c339, c340, c341, c342, c343, c344, c345, c346, c347, c348, c349, c350, c351, c352, c353, c354, c355, c356, c357, c358, c359, c360, c361, c362, c363], []⟩ w := by
  show Code.wp _ (Code.seq _ _) _ _ _
  have hcw : c < w.heap.size := (Array.getElem?_eq_some_iff.1 hC).1
  have hgw : g < w.heap.size := (Array.getElem?_eq_some_iff.1 hG).1
  have hiw : bIn < w.heap.size := (Array.getElem?_eq_some_iff.1 hI).1
  obtain ⟨-, -, -, -, -, -, -, -, y8⟩ := hI.all
  have HC := hide' hC
  have HG := hide' hG
  have HI := hide' hI
  have R1 := hide' r1
  have R2 := hide' r2
  have I1 := hide' i1
  have I2 := hide' i2
  have I4 := hide' i4
  have HB := hide' hB
  have HLS := hide' hls
  have HHS := hide' hhs
  clear hC hG r1 r2 i1 i2 i4 hB hI hls hhs
  refine seq_hid fun K1 HK1 => ?_
  go_wp2_with fail
  refine HK1.out _ _ ?_
  clear HK1
  refine seq_hid fun K2 HK2 => ?_
  have hneq := fun (a : Option Addr) (l cc : Nat) (w : World) => run_neq_slice_nil_any (P := Yba.prog) w 23 3 a l cc 0 0 Yba.underlying23
  cases ja with
  | none =>
    obtain ⟨rfl, rfl⟩ := hnil rfl
    clear hnil
    go_wp2_with fail
    exact HK2.out _ _ (t13 w0 w c g bIn cnt rn n4 0 c4' tc sc rc 0 0 x0 x1 a4 ta sa ra none none op out alv ar ar2 st sl d0 tl ls hs zs js hcnt hrn hn4 hjn hx0 hx1 HLS.out HHS.out HC.out hgc hic HG.out HI.out hwc R1.out R2.out I1.out I2.out (.inl rfl) I4.out HB.out)
  | some av =>
    clear hnil
    obtain ⟨i0, hi, hz0, hz1, hz2⟩ := info_parts Yba.info3
    go_wp2_with (first
      | (at_make; refine wpList_make_full _ rfl (.tmp 109) (.tmp 109) 23 rfl w.heap.size 3 i0 _ 1 Yba.underlying23 hi hz0 hz1 .i64 .i64 jn jn jn rfl rfl rfl rfl (by rw [hz2]; omega) (by simp only [maxLen]; omega) (Nat.le_refl _) ?_; intro w1 hown hgrow; obtain ⟨cur, hrow, hlen⟩ := made_row hown; have hbw := (Below.refl w.heap.size w).grown hgrow (Nat.le_refl _) (by simp); have y8' := (hbw.cell (p := ⟨bIn, 8, none⟩) hiw).trans y8; have HR := hide' hrow; have HL := hide' hlen; have HBW := hide' hbw; clear hown hgrow hrow hlen hbw)
      | (refine wpList_copy_splice rfl (.tmp 111) (.tmp 113) 23 23 rfl 3 Yba.underlying23 Yba.size3 (some ⟨w.heap.size, 0, none⟩) (some av) jn jn jn jc rfl rfl w.heap.size 0 cur 3 HR.out ((List.range jn).map fun j => Value.int .i64 (js.getD j 0)) (by simp) (by intro hpos; exact ⟨rfl, av, rfl, src_cells HBW.out I4.out⟩) (by rw [HL.out]; simp) (by intro v hv; simp at hv; obtain ⟨_, _, rfl⟩ := hv; rfl) w.heap.size w HBW.out (Nat.le_refl _) ?_; intro w2 HR2 hb2; have HB2 := hide' hb2; clear hb2))
    have hb2 := HB2.out
    have hk : ∀ k, k < w.heap.size → k ≠ w.heap.size → w2.heap[k]? = w.heap[k]? := fun k hk _ => hb2.block k hk
    exact HK2.out _ _ (t13 w0 w2 c g bIn cnt rn n4 jn c4' tc sc rc jn jc x0 x1 a4 ta sa ra (some ⟨w.heap.size, 0, none⟩) (some av) op out alv ar ar2 st sl d0 tl ls hs zs js hcnt hrn hn4 hjn hx0 hx1 HLS.out HHS.out ((hb2.block c hcw).trans HC.out) hgc hic ((hb2.block g hgw).trans HG.out) ((hb2.block bIn hiw).trans HI.out) hwc
      (R1.out.kept (.inr (Nat.le_refl _)) hk) (R2.out.kept (.inr (Nat.le_refl _)) hk) (I1.out.kept (.inr (Nat.le_refl _)) hk) (I2.out.kept (.inr (Nat.le_refl _)) hk) (copied_row (by omega) HR2.out) (I4.out.kept (.inr (Nat.le_refl _)) hk) (HB.out.trans (hb2.mono HB.out.size)))
end Go.Proofs.Ybulkdvws
