import Derived.Test.YbulkdvwsW13
namespace Go.Proofs.Ybulkdvws
open Go.RowKit

theorem IA.new {X : Nat} {w : World} {a : Option Addr} {n : Nat} {zs : List Int} (h : IA X w a n zs) (o : Obj) : IA w.heap.size (w.alloc o) a n zs := by
  rcases h with h | ⟨b, off, rfl, _, hc⟩
  · exact .inl h
  · by_cases hn : n = 0
    · exact .inl hn
    have hlt : b < w.heap.size := World.block_lt_of_cell? w _ (hc 0 (by omega))
    exact .inr ⟨b, off, rfl, by omega, fun j hj => by rw [World.cell?_alloc_past _ _ _ hlt]; exact hc j hj⟩
theorem RA.new {X : Nat} {w : World} {a : Option Addr} {n : Nat} {ls hs : List Nat} (h : RA X w a n ls hs) (o : Obj) : RA w.heap.size (w.alloc o) a n ls hs := by
  rcases h with h | ⟨b, off, rfl, _, hc, hd⟩
  · exact .inl h
  · by_cases hn : n = 0
    · exact .inl hn
    have hlt : b < w.heap.size := World.block_lt_of_cell? w _ (hc 0 (by omega))
    exact .inr ⟨b, off, rfl, by omega, fun j hj => by rw [World.cell?_alloc_past _ _ _ hlt]; exact hc j hj, fun j hj => by rw [World.cell?_alloc_past _ _ _ hlt]; exact hd j hj⟩

set_option maxRecDepth 1000000 in
set_option maxHeartbeats 4000000 in
theorem t8 (w0 w : World) {c0 c1 c7 c8 c9 c10 c11 c12 c13 c14 c16 c19 c21 c22 c23 c24 c25 c26 c27 c28 c29 c30 c31 c32 c33 c34 c35 c36 c37 c38 c39 c40 c41 c42 c43 c44 c45 c46 c47 c48 c49 c50 c51 c52 c53 c54 c55 c56 c57 c58 c59 c60 c61 c62 c63 c64 c65 c66 c67 c68 c69 c70 c71 c72 c73 c74 c75 c76 c77 c78 c79 c80 c81 c82 c83 c84 c85 c86 c87 c88 c89 c90 c91 c92 c93 c94 c95 c96 c97 c98 c99 c100 c101 c102 c103 c104 c105 c106 c107 c108 c109 c110 c111 c112 c113 c114 c115 c116 c117 c118 c119 c120 c121 c122 c123 c124 c125 c126 c127 c128 c129 c130 c131 c132 c133 c134 c135 c136 c137 c138 c139 c140 c141 c142 c143 c144 c145 c146 c147 c148 c149 c150 c151 c152 c153 c154 c155 c156 c157 c158 c159 c160 c161 c162 c163 c164 c165 c166 c167 c168 c169 c170 c171 c172 c173 c174 c175 c176 c177 c178 c179 c180 c181 c182 c183 c184 c185 c186 c187 c188 c189 c190 c191 c192 c193 c194 c195 c196 c197 c198 c199 c200 c201 c202 c203 c204 c205 c206 c207 c208 c209 c210 c211 c212 c213 c214 c215 c216 c217 c218 c219 c220 c221 c222 c223 c224 c225 c226 c227 c228 c229 c230 c231 c232 c233 c234 c235 c236 c237 c238 c239 c240 c241 c242 c243 c244 c245 c246 c247 c248 c249 c250 c251 c252 c253 c254 c255 c256 c257 c258 c259 c260 c261 c262 c263 c264 c265 c266 c267 c268 c269 c270 c271 c272 c273 c274 c275 c276 c277 c278 c279 c280 c281 c282 c283 c284 c285 c286 c287 c288 c289 c290 c291 c292 c293 c294 c295 c296 c297 c298 c299 c300 c301 c302 c303 c304 c305 c306 c307 c308 c309 c310 c311 c312 c313 c314 c315 c316 c317 c318 c319 c320 c321 c322 c323 c324 c325 c326 c327 c328 c329 c330 c331 c332 c333 c334 c335 c336 c337 c338 c339 c340 c341 c342 c343 c344 c345 c346 c347 c348 c349 c350 c351 c352 c353 c354 c355 c356 c357 c358 c359 c360 c361 c362 c363 : Value} (g bIn cnt rn n4 jn c4' tc rc jc x0 x1 X : Nat) (a4 ta ra ja : Option Addr) (op out alv ar ar2 st sl d0 : Int) (tl : Bool) (ls hs : List Nat) (zs js : List Int)
    (hcnt : cnt ≤ 16386) (hrn : rn ≤ 1048576) (hn4 : n4 ≤ 1048576) (hjn : jn ≤ 1048576) (hx0 : x0 < 2 ^ 64) (hx1 : x1 < 2 ^ 64) (hls : ∀ j, ls.getD j 0 ≤ 65535) (hhs : ∀ j, hs.getD j 0 ≤ 65535) (hnil : ja = none → jn = 0 ∧ jc = 0)
    (hG : w.heap[g]? = some (.cells (pres cnt).toArray 34 (0, 0)))
    (hI : InBox w bIn op out alv ar ar2 (.slice ra rn rc) x0 x1 (.slice ja jn jc))
    (r2 : RA X w ra rn ls hs) (i1 : IA X w ta n4 zs) (i2 : IA X w a4 n4 zs) (i4 : IA X w ja jn js) (hB : Below w0.heap.size w0 w) :
    Code.wp Yba.prog (sndN 8 (Yba.f3.body.getD .skip)) (bodyPost Yba.prog Yba.f3 (fun e w' => e = .returned (.bool true) ∧ Below w0.heap.size w0 w')) ⟨#[c0, c1, .int .i64 d0, .bool tl, .slice a4 n4 c4', .int .i64 sl, .int .i64 st, c7, c8, c9, c10, c11, c12, c13, c14, .pointer (some ⟨bIn, 0, none⟩), c16, .int .i64 (cnt : Nat), .slice (some ⟨g, 0, none⟩) cnt cnt, c19, .slice ta n4 tc, c21, c22, c23, c24, c25, c26, c27, c28, c29, c30, c31, c32, c33, c34, c35, c36, c37, c38, c39, c40, c41, c42, c43, c44, c45, c46, c47, c48, c49, c50, c51, c52, c53, c54, c55, c56, c57, c58, c59, c60, c61, c62, c63, c64, c65, c66, c67, c68, c69, c70, c71, c72, c73, c74, c75, c76, c77, c78, c79, c80, c81, c82, c83, c84, c85, c86, c87, c88, c89, c90, c91, c92, c93, c94, c95, c96, c97, c98, c99, c100, c101, c102, c103, c104, c105, c106, c107, c108, c109, c110, c111, c112, c113, c114, c115, c116, c117, c118, c119, c120, c121, c122, c123, c124, c125, c126, c127, c128, c129, c130, c131, c132, c133, c134, c135, c136, c137, c138, c139, c140, c141, c142, c143, c144, c145, c146, c147, c148, c149, c150, c151, c152, c153, c154, c155, c156, c157, c158, c159, c160, c161, c162, c163, c164, c165, c166, c167, c168, c169, c170, c171, c172, c173, c174, c175, c176, c177, c178, c179, c180, c181, c182, c183, c184, c185, c186, c187, c188, c189, c190, c191, c192, c193, c194, c195, c196, c197, c198, c199, c200, c201, c202, c203, c204, c205, c206, c207, c208, c209, c210, c211, c212, c213, c214, c215, c216, c217, c218, c219, c220, c221, c222, c223, c224, c225, c226, c227, c228, c229, c230, c231, c232, c233, c234, c235, c236, c237, c238, c239, c240, c241, c242, c243, c244, c245, c246, c247, c248, c249, c250, c251, c252, c253, c254, c255, c256, c257, c258, c259, c260, c261, c262, c263, c264, c265, c266, c267, c268, c269, c270, c271, c272, c273, c274, c275, c276, c277, c278, c279, c280, c281, c282, c283, c284, c285, c286, c287, c288, c289, c290, c291, c292, c293, c294, c295, c296, c297, c298, c299, c300, c301, c302, c303, c304, c305, c306, c307, c308, c309, c310, c311, c312, c313, c314, c315, c316, c317, c318, c319, c320, c321, c322, c323, c324, c325, c326, c327, c328, c329, c330, c331, c332, c333, c334, c335, c336, c337, c338, c339, c340, c341, c342, c343, c344, c345, c346, c347, c348, c349, c350, c351, c352, c353, c354, c355, c356, c357, c358, c359, c360, c361, c362, c363], []⟩ w := by
  show Code.wp _ (Code.seq _ _) _ _ _
  have hgw : g < w.heap.size := (Array.getElem?_eq_some_iff.1 hG).1
  have hiw : bIn < w.heap.size := (Array.getElem?_eq_some_iff.1 hI).1
  have HG := hide' hG
  have HI := hide' hI
  have R2 := hide' r2
  have I1 := hide' i1
  have I2 := hide' i2
  have I4 := hide' i4
  have HB := hide' hB
  have HLS := hide' hls
  have HHS := hide' hhs
  clear hG r2 i1 i2 i4 hB hI hls hhs
  refine seq_hid fun K1 HK1 => ?_
  go_wp2_with fail
  refine HK1.out _ _ ?_
  clear HK1
  exact t9 w0 _ w.heap.size g bIn cnt rn n4 jn c4' tc rc jc x0 x1 a4 ta ra ja op out alv ar ar2 st sl d0 tl ls hs zs js hcnt hrn hn4 hjn hx0 hx1 HLS.out HHS.out hnil (heap_alloc_new w _) (by omega) (by omega) ((Below.heap_alloc _ _ _ hgw).trans HG.out) ((Below.heap_alloc _ _ _ hiw).trans HI.out) HB.out.size
    (R2.out.new _) (I1.out.new _) (I2.out.new _) (I4.out.new _) (HB.out.alloc HB.out.size _)

set_option maxRecDepth 1000000 in
set_option maxHeartbeats 4000000 in
theorem t6 (w0 w : World) {c0 c1 c7 c8 c9 c10 c11 c12 c13 c14 c16 c19 c20 c21 c22 c23 c24 c25 c26 c27 c28 c29 c30 c31 c32 c33 c34 c35 c36 c37 c38 c39 c40 c41 c42 c43 c44 c45 c46 c47 c48 c49 c50 c51 c52 c53 c54 c55 c56 c57 c58 c59 c60 c61 c62 c63 c64 c65 c66 c67 c68 c69 c70 c71 c72 c73 c74 c75 c76 c77 c78 c79 c80 c81 c82 c83 c84 c85 c86 c87 c88 c89 c90 c91 c92 c93 c94 c95 c96 c97 c98 c99 c100 c101 c102 c103 c104 c105 c106 c107 c108 c109 c110 c111 c112 c113 c114 c115 c116 c117 c118 c119 c120 c121 c122 c123 c124 c125 c126 c127 c128 c129 c130 c131 c132 c133 c134 c135 c136 c137 c138 c139 c140 c141 c142 c143 c144 c145 c146 c147 c148 c149 c150 c151 c152 c153 c154 c155 c156 c157 c158 c159 c160 c161 c162 c163 c164 c165 c166 c167 c168 c169 c170 c171 c172 c173 c174 c175 c176 c177 c178 c179 c180 c181 c182 c183 c184 c185 c186 c187 c188 c189 c190 c191 c192 c193 c194 c195 c196 c197 c198 c199 c200 c201 c202 c203 c204 c205 c206 c207 c208 c209 c210 c211 c212 c213 c214 c215 c216 c217 c218 c219 c220 c221 c222 c223 c224 c225 c226 c227 c228 c229 c230 c231 c232 c233 c234 c235 c236 c237 c238 c239 c240 c241 c242 c243 c244 c245 c246 c247 c248 c249 c250 c251 c252 c253 c254 c255 c256 c257 c258 c259 c260 c261 c262 c263 c264 c265 c266 c267 c268 c269 c270 c271 c272 c273 c274 c275 c276 c277 c278 c279 c280 c281 c282 c283 c284 c285 c286 c287 c288 c289 c290 c291 c292 c293 c294 c295 c296 c297 c298 c299 c300 c301 c302 c303 c304 c305 c306 c307 c308 c309 c310 c311 c312 c313 c314 c315 c316 c317 c318 c319 c320 c321 c322 c323 c324 c325 c326 c327 c328 c329 c330 c331 c332 c333 c334 c335 c336 c337 c338 c339 c340 c341 c342 c343 c344 c345 c346 c347 c348 c349 c350 c351 c352 c353 c354 c355 c356 c357 c358 c359 c360 c361 c362 c363 : Value} (g bIn cnt rn n4 jn c4' rc jc x0 x1 X : Nat) (a4 ra ja : Option Addr) (op out alv ar ar2 st sl d0 : Int) (tl : Bool) (ls hs : List Nat) (zs js : List Int)
    (hcnt : cnt ≤ 16386) (hrn : rn ≤ 1048576) (hn4 : n4 ≤ 1048576) (hjn : jn ≤ 1048576) (hx0 : x0 < 2 ^ 64) (hx1 : x1 < 2 ^ 64) (hls : ∀ j, ls.getD j 0 ≤ 65535) (hhs : ∀ j, hs.getD j 0 ≤ 65535) (hnil : ja = none → jn = 0 ∧ jc = 0) (hnil4 : a4 = none → n4 = 0 ∧ c4' = 0)
    (hG : w.heap[g]? = some (.cells (pres cnt).toArray 34 (0, 0)))
    (hI : InBox w bIn op out alv ar ar2 (.slice ra rn rc) x0 x1 (.slice ja jn jc)) (hX : X < w.heap.size)
    (r2 : RA X w ra rn ls hs) (i2 : IA X w a4 n4 zs) (i4 : IA X w ja jn js) (hB : Below w0.heap.size w0 w) :
    Code.wp Yba.prog (sndN 6 (Yba.f3.body.getD .skip)) (bodyPost Yba.prog Yba.f3 (fun e w' => e = .returned (.bool true) ∧ Below w0.heap.size w0 w')) ⟨#[c0, c1, .int .i64 d0, .bool tl, .slice a4 n4 c4', .int .i64 sl, .int .i64 st, c7, c8, c9, c10, c11, c12, c13, c14, .pointer (some ⟨bIn, 0, none⟩), c16, .int .i64 (cnt : Nat), .slice (some ⟨g, 0, none⟩) cnt cnt, c19, c20, c21, c22, c23, c24, c25, c26, c27, c28, c29, c30, c31, c32, c33, c34, c35, c36, c37, c38, c39, c40, c41, c42, c43, c44, c45, c46, c47, c48, c49, c50, c51, c52, c53, c54, c55, c56, c57, c58, c59, c60, c61, c62, c63, c64, c65, c66, c67, c68, c69, c70, c71, c72, c73, c74, c75, c76, c77, c78, c79, c80, c81, c82, c83, c84, c85, c86, c87, c88, c89, c90, c91, c92, c93, c94, c95, c96, c97, c98, c99, c100, c101, c102, c103, c104, c105, c106, c107, c108, c109, c110, c111, c112, c113, c114, c115, c116, c117, c118, c119, c120, c121, c122, c123, c124, c125, c126, c127, c128, c129, c130, c131, c132, c133, c134, c135, c136, c137, c138, c139, c140, c141, c142, c143, c144, c145, c146, c147, c148, c149, c150, c151, c152, c153, c154, c155, c156, c157, c158, c159, c160, c161, c162, c163, c164, c165, c166, c167, c168, c169, c170, c171, c172, c173, c174, c175, c176, c177, c178, c179, c180, c181, c182, c183, c184, c185, c186, c187, c188, c189, c190, c191, c192, c193, c194, c195, c196, c197, c198, c199, c200, c201, c202, c203, c204, c205, c206, c207, c208, c209, c210, c211, c212, c213, c214, c215, c216, c217, c218, c219, c220, c221, c222, c223, c224, c225, c226, c227, c228, c229, c230, c231, c232, c233, c234, c235, c236, c237, c238, c239, c240, c241, c242, c243, c244, c245, c246, c247, c248, c249, c250, c251, c252, c253, c254, c255, c256, c257, c258, c259, c260, c261, c262, c263, c264, c265, c266, c267, c268, c269, c270, c271, c272, c273, c274, c275, c276, c277, c278, c279, c280, c281, c282, c283, c284, c285, c286, c287, c288, c289, c290, c291, c292, c293, c294, c295, c296, c297, c298, c299, c300, c301, c302, c303, c304, c305, c306, c307, c308, c309, c310, c311, c312, c313, c314, c315, c316, c317, c318, c319, c320, c321, c322, c323, c324, c325, c326, c327, c328, c329, c330, c331, c332, c333, c334, c335, c336, c337, c338, c339, c340, c341, c342, c343, c344, c345, c346, c347, c348, c349, c350, c351, c352, c353, c354, c355, c356, c357, c358, c359, c360, c361, c362, c363], []⟩ w := by
  show Code.wp _ (Code.seq _ _) _ _ _
  have hgw : g < w.heap.size := (Array.getElem?_eq_some_iff.1 hG).1
  have hiw : bIn < w.heap.size := (Array.getElem?_eq_some_iff.1 hI).1
  have HG := hide' hG
  have HI := hide' hI
  have R2 := hide' r2
  have I2 := hide' i2
  have I4 := hide' i4
  have HB := hide' hB
  have HLS := hide' hls
  have HHS := hide' hhs
  have HN := hide' hnil
  clear hG r2 i2 i4 hB hI hls hhs hnil
  refine seq_hid fun K1 HK1 => ?_
  go_wp2_with fail
  refine HK1.out _ _ ?_
  clear HK1
  refine seq_hid fun K2 HK2 => ?_
  have hneq := fun (a : Option Addr) (l cc : Nat) (w : World) => run_neq_slice_nil_any (P := Yba.prog) w 23 3 a l cc 0 0 Yba.underlying23
  cases a4 with
  | none =>
    obtain ⟨rfl, rfl⟩ := hnil4 rfl
    clear hnil4
    go_wp2_with fail
    exact HK2.out _ _ (t8 w0 w g bIn cnt rn 0 jn 0 0 rc jc x0 x1 X none none ra ja op out alv ar ar2 st sl d0 tl ls hs zs js hcnt hrn hn4 hjn hx0 hx1 HLS.out HHS.out HN.out HG.out HI.out R2.out (.inl rfl) (.inl rfl) I4.out HB.out)
  | some av =>
    clear hnil4
    obtain ⟨i0, hi, hz0, hz1, hz2⟩ := info_parts Yba.info3
    go_wp2_with (first
      | (at_make; refine wpList_make_full _ rfl (.tmp 67) (.tmp 67) 23 rfl w.heap.size 3 i0 _ 1 Yba.underlying23 hi hz0 hz1 .i64 .i64 n4 n4 n4 rfl rfl rfl rfl (by rw [hz2]; omega) (by simp only [maxLen]; omega) (Nat.le_refl _) ?_; intro w1 hown hgrow; obtain ⟨cur, hrow, hlen⟩ := made_row hown; have hbw := (Below.refl w.heap.size w).grown hgrow (Nat.le_refl _) (by simp); have HR := hide' hrow; have HL := hide' hlen; have HBW := hide' hbw; clear hown hgrow hrow hlen hbw)
      | (refine wpList_copy_splice rfl (.tmp 69) (.tmp 70) 23 23 rfl 3 Yba.underlying23 Yba.size3 (some ⟨w.heap.size, 0, none⟩) (some av) n4 n4 n4 c4' rfl rfl w.heap.size 0 cur 3 HR.out ((List.range n4).map fun j => Value.int .i64 (zs.getD j 0)) (by simp) (by intro hpos; exact ⟨rfl, av, rfl, src_cells HBW.out I2.out⟩) (by rw [HL.out]; simp) (by intro v hv; simp at hv; obtain ⟨_, _, rfl⟩ := hv; rfl) w.heap.size w HBW.out (Nat.le_refl _) ?_; intro w2 HR2 hb2; have HB2 := hide' hb2; clear hb2))
    have hb2 := HB2.out
    have hk : ∀ k, k < w.heap.size → k ≠ w.heap.size → w2.heap[k]? = w.heap[k]? := fun k hk _ => hb2.block k hk
    exact HK2.out _ _ (t8 w0 w2 g bIn cnt rn n4 jn c4' n4 rc jc x0 x1 X (some av) (some ⟨w.heap.size, 0, none⟩) ra ja op out alv ar ar2 st sl d0 tl ls hs zs js hcnt hrn hn4 hjn hx0 hx1 HLS.out HHS.out HN.out ((hb2.block g hgw).trans HG.out) ((hb2.block bIn hiw).trans HI.out)
      (R2.out.kept (.inr (Nat.le_refl _)) hk) (copied_row (by omega) HR2.out) (I2.out.kept (.inr (Nat.le_refl _)) hk) (I4.out.kept (.inr (Nat.le_refl _)) hk) (HB.out.trans (hb2.mono HB.out.size)))
end Go.Proofs.Ybulkdvws
