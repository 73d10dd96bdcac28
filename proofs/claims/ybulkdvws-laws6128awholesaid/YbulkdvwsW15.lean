import Derived.Test.YbulkdvwsW14
namespace Go.Proofs.Ybulkdvws
open Go.RowKit

theorem full_row {w : World} {base g n : Nat} (h : w.ownsRow base 34 9 (.slice (some ⟨g, 0, none⟩) n n) n (pres n)) : w.heap[g]? = some (.cells (pres n).toArray 34 (0, 0)) := by
  rcases h.2 with ⟨h, _⟩ | ⟨g', cap, cur, hv, _, hh, _, _, hs, htk⟩
  · simp at h
  · simp only [Value.slice.injEq, Option.some.injEq, Addr.mk.injEq, and_true, true_and] at hv
    obtain ⟨rfl, rfl⟩ := hv
    rw [← htk, List.take_of_length_le (by simp [hs])]
    simpa using hh

set_option maxRecDepth 1000000 in
set_option maxHeartbeats 4000000 in
theorem t4 (w0 w : World) {c0 c1 c7 c8 c9 c10 c11 c12 c13 c14 c16 c18 c19 c20 c21 c22 c23 c24 c25 c26 c27 c28 c29 c30 c31 c32 c33 c34 c35 c36 c37 c38 c39 c40 c41 c42 c43 c44 c45 c46 c47 c48 c49 c50 c51 c52 c53 c54 c55 c56 c57 c58 c59 c60 c61 c62 c63 c64 c65 c66 c67 c68 c69 c70 c71 c72 c73 c74 c75 c76 c77 c78 c79 c80 c81 c82 c83 c84 c85 c86 c87 c88 c89 c90 c91 c92 c93 c94 c95 c96 c97 c98 c99 c100 c101 c102 c103 c104 c105 c106 c107 c108 c109 c110 c111 c112 c113 c114 c115 c116 c117 c118 c119 c120 c121 c122 c123 c124 c125 c126 c127 c128 c129 c130 c131 c132 c133 c134 c135 c136 c137 c138 c139 c140 c141 c142 c143 c144 c145 c146 c147 c148 c149 c150 c151 c152 c153 c154 c155 c156 c157 c158 c159 c160 c161 c162 c163 c164 c165 c166 c167 c168 c169 c170 c171 c172 c173 c174 c175 c176 c177 c178 c179 c180 c181 c182 c183 c184 c185 c186 c187 c188 c189 c190 c191 c192 c193 c194 c195 c196 c197 c198 c199 c200 c201 c202 c203 c204 c205 c206 c207 c208 c209 c210 c211 c212 c213 c214 c215 c216 c217 c218 c219 c220 c221 c222 c223 c224 c225 c226 c227 c228 c229 c230 c231 c232 c233 c234 c235 c236 c237 c238 c239 c240 c241 c242 c243 c244 c245 c246 c247 c248 c249 c250 c251 c252 c253 c254 c255 c256 c257 c258 c259 c260 c261 c262 c263 c264 c265 c266 c267 c268 c269 c270 c271 c272 c273 c274 c275 c276 c277 c278 c279 c280 c281 c282 c283 c284 c285 c286 c287 c288 c289 c290 c291 c292 c293 c294 c295 c296 c297 c298 c299 c300 c301 c302 c303 c304 c305 c306 c307 c308 c309 c310 c311 c312 c313 c314 c315 c316 c317 c318 c319 c320 c321 c322 c323 c324 c325 c326 c327 c328 c329 c330 c331 c332 c333 c334 c335 c336 c337 c338 c339 c340 c341 c342 c343 c344 c345 c346 c347 c348 c349 c350 c351 c352 c353 c354 c355 c356 c357 c358 c359 c360 c361 c362 c363 : Value} (bIn cnt rn n4 jn c4' rc jc x0 x1 : Nat) (a4 ra ja : Option Addr) (op out alv ar ar2 st sl d0 : Int) (tl : Bool) (ls hs : List Nat) (zs js : List Int)
    (hcnt : cnt ≤ 16386) (hrn : rn ≤ 1048576) (hn4 : n4 ≤ 1048576) (hjn : jn ≤ 1048576) (hx0 : x0 < 2 ^ 64) (hx1 : x1 < 2 ^ 64) (hls : ∀ j, ls.getD j 0 ≤ 65535) (hhs : ∀ j, hs.getD j 0 ≤ 65535) (hnil : ja = none → jn = 0 ∧ jc = 0) (hnil4 : a4 = none → n4 = 0 ∧ c4' = 0)
    (hI : InBox w bIn op out alv ar ar2 (.slice ra rn rc) x0 x1 (.slice ja jn jc))
    (r2 : RA bIn w ra rn ls hs) (i2 : IA bIn w a4 n4 zs) (i4 : IA bIn w ja jn js) (hB : Below w0.heap.size w0 w) :
    Code.wp Yba.prog (sndN 4 (Yba.f3.body.getD .skip)) (bodyPost Yba.prog Yba.f3 (fun e w' => e = .returned (.bool true) ∧ Below w0.heap.size w0 w')) ⟨#[c0, c1, .int .i64 d0, .bool tl, .slice a4 n4 c4', .int .i64 sl, .int .i64 st, c7, c8, c9, c10, c11, c12, c13, c14, .pointer (some ⟨bIn, 0, none⟩), c16, .int .i64 (cnt : Nat), c18, c19, c20, c21, c22, c23, c24, c25, c26, c27, c28, c29, c30, c31, c32, c33, c34, c35, c36, c37, c38, c39, c40, c41, c42, c43, c44, c45, c46, c47, c48, c49, c50, c51, c52, c53, c54, c55, c56, c57, c58, c59, c60, c61, c62, c63, c64, c65, c66, c67, c68, c69, c70, c71, c72, c73, c74, c75, c76, c77, c78, c79, c80, c81, c82, c83, c84, c85, c86, c87, c88, c89, c90, c91, c92, c93, c94, c95, c96, c97, c98, c99, c100, c101, c102, c103, c104, c105, c106, c107, c108, c109, c110, c111, c112, c113, c114, c115, c116, c117, c118, c119, c120, c121, c122, c123, c124, c125, c126, c127, c128, c129, c130, c131, c132, c133, c134, c135, c136, c137, c138, c139, c140, c141, c142, c143, c144, c145, c146, c147, c148, c149, c150, c151, c152, c153, c154, c155, c156, c157, c158, c159, c160, c161, c162, c163, c164, c165, c166, c167, c168, c169, c170, c171, c172, c173, c174, c175, c176, c177, c178, c179, c180, c181, c182, c183, c184, c185, c186, c187, c188, c189, c190, c191, c192, c193, c194, c195, c196, c197, c198, c199, c200, c201, c202, c203, c204, c205, c206, c207, c208, c209, c210, c211, c212, c213, c214, c215, c216, c217, c218, c219, c220, c221, c222, c223, c224, c225, c226, c227, c228, c229, c230, c231, c232, c233, c234, c235, c236, c237, c238, c239, c240, c241, c242, c243, c244, c245, c246, c247, c248, c249, c250, c251, c252, c253, c254, c255, c256, c257, c258, c259, c260, c261, c262, c263, c264, c265, c266, c267, c268, c269, c270, c271, c272, c273, c274, c275, c276, c277, c278, c279, c280, c281, c282, c283, c284, c285, c286, c287, c288, c289, c290, c291, c292, c293, c294, c295, c296, c297, c298, c299, c300, c301, c302, c303, c304, c305, c306, c307, c308, c309, c310, c311, c312, c313, c314, c315, c316, c317, c318, c319, c320, c321, c322, c323, c324, c325, c326, c327, c328, c329, c330, c331, c332, c333, c334, c335, c336, c337, c338, c339, c340, c341, c342, c343, c344, c345, c346, c347, c348, c349, c350, c351, c352, c353, c354, c355, c356, c357, c358, c359, c360, c361, c362, c363], []⟩ w := by
  show Code.wp _ (Code.seq _ _) _ _ _
  have hiw : bIn < w.heap.size := (Array.getElem?_eq_some_iff.1 hI).1
  have HI := hide' hI
  have R2 := hide' r2
  have I2 := hide' i2
  have I4 := hide' i4
  have HB := hide' hB
  have HLS := hide' hls
  have HHS := hide' hhs
  have HN := hide' hnil
  have HN4 := hide' hnil4
  clear r2 i2 i4 hB hI hls hhs hnil hnil4
  obtain ⟨i0, hi, hz0, hz1, hz2⟩ := info_parts Yba.info34
  refine seq_hid fun K1 HK1 => ?_
  go_wp2_with (at_make; refine wpList_make_own _ rfl (.const (.int .i64 0)) (.tmp 52) 29 rfl w.heap.size 34 i0 _ 9 Yba.underlying29 hi hz0 hz1 .i64 .i64 cnt cnt rfl rfl rfl (by rw [hz2]; omega) (by simp only [maxLen]; omega) (Nat.le_refl _) ?_; intro w1 hown hgrow; have HO := hide' hown; have HGR := hide' hgrow; clear hown hgrow)
  refine HK1.out _ _ ?_
  clear HK1
  refine seq_hid fun K2 HK2 => ?_
  go_wp2_with fail
  obtain ⟨g, hg⟩ : ∃ g, g = w.heap.size := ⟨_, rfl⟩
  rw [← hg] at HO ⊢
  have HG := hide' hg
  have hbi : bIn < g := by omega
  clear hg
  go_loopw [18, 19] (fun v i wr => ∃ k : Nat, k ≤ cnt ∧ i = .int .i64 k ∧ v = .slice (some ⟨g, 0, none⟩) k cnt ∧ wr.ownsRow g 34 9 (.slice (some ⟨g, 0, none⟩) k cnt) k (pres k) ∧ Below g w wr ∧ g < wr.heap.size) (fun _ i _ => cnt - (intOf i).toNat)
  case atStart =>
    have hg : g = w.heap.size := HG.out
    exact ⟨0, Nat.zero_le _, rfl, rfl, HO.out, (Below.refl _ _).grown HGR.out (by omega) (by simp), (HO.out.lt g rfl).2⟩
  case round =>
    obtain ⟨k, hk, rfl, rfl, hown, hbel, hsz⟩ := hrel
    by_cases hlt : k < cnt
    · have HO' := hide' hown
      have HBL := hide' hbel
      clear hown hbel
      have hlt' : (k : Int) < (cnt : Int) := by omega
      have HNW : Hid (∀ j u, (preCells k)[j]? = some u → ((wr.alloc (.cells (preCells k).toArray 34)).alloc (.cells (preCells k).toArray 34)).cell? ((⟨wr.heap.size + 1, 0, none⟩ : Addr).add j) = some u) := by
        intro j u hj
        rw [add_plain, World.cell?_alloc_at _ _ _ _ (by simp)]
        simpa using hj
      have H1 : Hid (∀ u ∈ preCells k, u.oneCell' = true) := by
        intro u hu
        simp [preCells] at hu
        rcases hu with rfl | rfl | rfl | rfl | rfl | rfl | rfl | rfl <;> rfl
      go_wp2_with (first
        | (go_at_call 4; refine (pre_any k (by omega) _).mono ?_; rintro e w' ⟨rfl, rfl⟩; simp only [preCells])
        | (at_builtin; refine wpList_append_fits _ rfl (.tmp 59) (.tmp 62) 29 rfl g 34 i0 9 Yba.underlying29 hi hz1 g k cnt (pres k) rfl ((HO'.out.alloc _).alloc _) ⟨wr.heap.size + 1, 0, none⟩ 1 1 (preCells k) rfl rfl HNW.out H1.out (by omega) ?_; intro w' hown hgrow; have HO2 := hide' hown; have HG2 := hide' hgrow; clear hown hgrow))
      go_roundw
      case rel => exact ⟨k + 1, by omega, by go_num, rfl, HO2.out, ((HBL.out.alloc (by omega) _).alloc (by simp; omega) _).grown HG2.out (by simp; omega) (fun j hj => by simp at hj; omega), (HO2.out.lt g rfl).2⟩
      case measure => simp [intOf]; omega
    · obtain rfl : k = cnt := by omega
      have HO' := hide' hown
      have HBL := hide' hbel
      clear hown hbel
      go_wp2_with fail
      have hb2 := HBL.out
      have hg : g = w.heap.size := HG.out
      have hk' : ∀ j, j < w.heap.size → j ≠ w.heap.size → wr.heap[j]? = w.heap[j]? := fun j hj _ => hb2.block j (by omega)
      exact HK2.out _ _ (t6 w0 wr g bIn k rn n4 jn c4' rc jc x0 x1 bIn a4 ra ja op out alv ar ar2 st sl d0 tl ls hs zs js hcnt hrn hn4 hjn hx0 hx1 HLS.out HHS.out HN.out HN4.out (full_row HO'.out) ((hb2.block bIn hbi).trans HI.out) (by omega)
        (R2.out.kept (.inr (Nat.le_refl _)) hk') (I2.out.kept (.inr (Nat.le_refl _)) hk') (I4.out.kept (.inr (Nat.le_refl _)) hk') (HB.out.trans (hb2.mono (by have := HB.out.size; omega))))
end Go.Proofs.Ybulkdvws
