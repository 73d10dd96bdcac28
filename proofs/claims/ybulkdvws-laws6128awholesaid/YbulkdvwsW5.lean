import Derived.Test.YbulkdvwsW4
import Derived.Deep.RegionWith
namespace Go.Proofs.Ybulkdvws
open Go.RowKit

/-- What stands behind the n-th ';' of a body. -/
def sndN : Nat → Code → Code
  | 0, c => c
  | n + 1, .seq _ b => sndN n b
  | _ + 1, c => c

/-- The cells of the instructions laid ahead of the call. -/
def pres : Nat → List Value
  | 0 => []
  | n + 1 => pres n ++ preCells n
theorem pres_len (n : Nat) : (pres n).length = n * 9 := by
  induction n with
  | zero => rfl
  | succ n ih => simp [pres, ih, preCells]; omega
theorem pres_get (n k i : Nat) (hk : k < n) (hi : i < 9) : (pres n)[k * 9 + i]? = (preCells k)[i]? := by
  induction n with
  | zero => omega
  | succ n ih =>
    by_cases h : k < n
    · rw [pres, List.getElem?_append_left (by rw [pres_len]; omega)]; exact ih h
    · obtain rfl : k = n := by omega
      rw [pres, List.getElem?_append_right (by rw [pres_len]; omega), pres_len]
      congr 1; omega

theorem row_cell {w : World} {g cnt : Nat} {cur : Array Value} (hG : w.heap[g]? = some (.cells cur 34 (0, 0))) (ht : cur.toList.take (cnt * 9) = pres cnt) (k i : Nat) (hk : k < cnt) (hi : i < 9) : w.cell? ⟨g, k * 9 + i, none⟩ = (preCells k)[i]? := by
  rw [cell_of_row w g (k * 9 + i) cur 34 (0, 0) hG, ← pres_get cnt k i hk hi, ← ht, List.getElem?_take]
  rw [if_pos (by omega)]
  simp

set_option maxRecDepth 1000000 in
set_option maxHeartbeats 2000000 in
theorem tail18 (w0 w : World) {c0 c1 c2 c3 c4 c5 c6 c7 c8 c9 c10 c11 c12 c13 c14 c15 c16 c18 c19 c20 c22 c23 c24 c25 c26 c27 c28 c29 c30 c31 c32 c33 c34 c35 c36 c37 c38 c39 c40 c41 c42 c43 c44 c45 c46 c47 c48 c49 c50 c51 c52 c53 c54 c55 c56 c57 c58 c59 c60 c61 c62 c63 c64 c65 c66 c67 c68 c69 c70 c71 c72 c73 c74 c75 c76 c77 c78 c79 c80 c81 c82 c83 c84 c85 c86 c87 c88 c89 c90 c91 c92 c93 c94 c95 c96 c97 c98 c99 c100 c101 c102 c103 c104 c105 c106 c107 c108 c109 c110 c111 c112 c113 c114 c115 c116 c117 c118 c119 c120 c121 c122 c123 c124 c125 c126 c127 c128 c129 c130 c131 c132 c133 c134 c135 c136 c137 c138 c139 c140 c141 c142 c143 c144 c145 c146 c147 c148 c149 c150 c151 c152 c153 c154 c155 c156 c157 c158 c159 c160 c161 c162 c163 c164 c165 c166 c167 c168 c169 c170 c171 c172 c173 c174 c175 c176 c177 c178 c179 c180 c181 c182 c183 c184 c185 c186 c187 c188 c189 c190 c191 c192 c193 c194 c195 c196 c197 c198 c199 c200 c201 c202 c203 c204 c205 c206 c207 c208 c209 c210 c211 c212 c213 c214 c215 c216 c217 c218 c219 c220 c221 c222 c223 c224 c225 c226 c227 c228 c229 c230 c231 c232 c233 c234 c235 c236 c237 c238 c239 c240 c241 c242 c243 c244 c245 c246 c247 c248 c249 c250 c251 c252 c253 c254 c255 c256 c257 c258 c259 c260 c261 c262 c263 c264 c265 c266 c267 c268 c269 c270 c271 c272 c273 c274 c275 c276 c277 c278 c279 c280 c281 c282 c283 c284 c285 c286 c287 c288 c289 c290 c291 c292 c293 c294 c295 c296 c297 c298 c299 c300 c301 c302 c303 c304 c305 c306 c307 c308 c309 c310 c311 c312 c313 c314 c315 c316 c317 c318 c319 c320 c321 c322 c323 c324 c325 c326 c327 c328 c329 c330 c331 c332 c333 c334 c335 c336 c337 c338 c339 c340 c341 c342 c343 c344 c345 c346 c347 c348 c349 c350 c351 c352 c353 c354 c355 c356 c357 c358 c359 c360 c361 c362 c363 : Value} (c g n cap cnt : Nat) (cur : Array Value) (st sl d : Int) (tv : Value) (tl : Bool) (hcnt : cnt ≤ 16386) (hn : cnt ≤ n) (hC : CBlock w c (.slice (some ⟨g, 0, none⟩) n cap) st sl d tv tl)
    (hG : w.heap[g]? = some (.cells cur 34 (0, 0))) (ht : cur.toList.take (cnt * 9) = pres cnt) (hB : Below w0.heap.size w0 w) :
    Code.wp Yba.prog (sndN 18 (Yba.f3.body.getD .skip)) (bodyPost Yba.prog Yba.f3 (fun e w' => e = .returned (.bool true) ∧ Below w0.heap.size w0 w')) ⟨#[c0, c1, c2, c3, c4, c5, c6, c7, c8, c9, c10, c11, c12, c13, c14, c15, c16, .int .i64 (cnt : Nat), c18, c19, c20, .pointer (some ⟨c, 0, none⟩), c22, c23, c24, c25, c26, c27, c28, c29, c30, c31, c32, c33, c34, c35, c36, c37, c38, c39, c40, c41, c42, c43, c44, c45, c46, c47, c48, c49, c50, c51, c52, c53, c54, c55, c56, c57, c58, c59, c60, c61, c62, c63, c64, c65, c66, c67, c68, c69, c70, c71, c72, c73, c74, c75, c76, c77, c78, c79, c80, c81, c82, c83, c84, c85, c86, c87, c88, c89, c90, c91, c92, c93, c94, c95, c96, c97, c98, c99, c100, c101, c102, c103, c104, c105, c106, c107, c108, c109, c110, c111, c112, c113, c114, c115, c116, c117, c118, c119, c120, c121, c122, c123, c124, c125, c126, c127, c128, c129, c130, c131, c132, c133, c134, c135, c136, c137, c138, c139, c140, c141, c142, c143, c144, c145, c146, c147, c148, c149, c150, c151, c152, c153, c154, c155, c156, c157, c158, c159, c160, c161, c162, c163, c164, c165, c166, c167, c168, c169, c170, c171, c172, c173, c174, c175, c176, c177, c178, c179, c180, c181, c182, c183, c184, c185, c186, c187, c188, c189, c190, c191, c192, c193, c194, c195, c196, c197, c198, c199, c200, c201, c202, c203, c204, c205, c206, c207, c208, c209, c210, c211, c212, c213, c214, c215, c216, c217, c218, c219, c220, c221, c222, c223, c224, c225, c226, c227, c228, c229, c230, c231, c232, c233, c234, c235, c236, c237, c238, c239, c240, c241, c242, c243, c244, c245, c246, c247, c248, c249, c250, c251, c252, c253, c254, c255, c256, c257, c258, c259, c260, c261, c262, c263, c264, c265, c266, c267, c268, c269, c270, c271, c272, c273, c274, c275, c276, c277, c278, c279, c280, c281, c282, c283, c284, c285, c286, c287, c288, c289, c290, c291, c292, c293, c294, c295, c296, c297, c298, c299, c300, c301, c302, c303, c304, c305, c306, c307, c308, c309, c310, c311, c312, c313, c314, c315, c316, c317, c318, c319, c320, c321, c322, c323, c324, c325, c326, c327, c328, c329, c330, c331, c332, c333, c334, c335, c336, c337, c338, c339, c340, c341, c342, c343, c344, c345, c346, c347, c348, c349, c350, c351, c352, c353, c354, c355, c356, c357, c358, c359, c360, c361, c362, c363], []⟩ w := by
  show Code.wp _ (Code.seq _ _) _ _ _
  have hcw : c < w.heap.size := (Array.getElem?_eq_some_iff.1 hC).1
  have hgw : g < w.heap.size := (Array.getElem?_eq_some_iff.1 hG).1
  go_wp2
  go_loopw [32] (fun i wr => ∃ k : Nat, k ≤ cnt ∧ i = .int .i64 k ∧ Below w.heap.size w wr) (fun i _ => cnt - (intOf i).toNat)
  case atStart => exact ⟨0, Nat.zero_le _, rfl, Below.refl _ _⟩
  case round =>
    obtain ⟨k, hk, rfl, hbel⟩ := hrel
    by_cases hlt : k < cnt
    · have i0 := (hbel.cell (p := ⟨c, 0, none⟩) hcw).trans hC.cell.1
      have r0 : wr.cell? ⟨g, k * 9, none⟩ = _ := (hbel.cell (p := ⟨g, k * 9 + 0, none⟩) hgw).trans (row_cell hG ht k 0 hlt (by omega))
      have r1 := (hbel.cell (p := ⟨g, k * 9 + 1, none⟩) hgw).trans (row_cell hG ht k 1 hlt (by omega))
      have r2 := (hbel.cell (p := ⟨g, k * 9 + 2, none⟩) hgw).trans (row_cell hG ht k 2 hlt (by omega))
      have r3 := (hbel.cell (p := ⟨g, k * 9 + 3, none⟩) hgw).trans (row_cell hG ht k 3 hlt (by omega))
      have r4 := (hbel.cell (p := ⟨g, k * 9 + 4, none⟩) hgw).trans (row_cell hG ht k 4 hlt (by omega))
      have r5 := (hbel.cell (p := ⟨g, k * 9 + 5, none⟩) hgw).trans (row_cell hG ht k 5 hlt (by omega))
      have r6 := (hbel.cell (p := ⟨g, k * 9 + 6, none⟩) hgw).trans (row_cell hG ht k 6 hlt (by omega))
      have r7 := (hbel.cell (p := ⟨g, k * 9 + 7, none⟩) hgw).trans (row_cell hG ht k 7 hlt (by omega))
      have r8 := (hbel.cell (p := ⟨g, k * 9 + 8, none⟩) hgw).trans (row_cell hG ht k 8 hlt (by omega))
      simp only [preCells, List.getElem?_cons_zero, List.getElem?_cons_succ] at r0 r1 r2 r3 r4 r5 r6 r7 r8
      have hcr : c < wr.heap.size := by have := hbel.size; omega
      have hgr : g < wr.heap.size := by have := hbel.size; omega
      clear hC hG ht
      have hkn : (k : Int) < (n : Int) := by omega
      have hkc : (k : Int) < (cnt : Int) := by omega
      go_wp2_with fail
      go_region_with (first | (go_at_call 4; refine (pre_any k (by omega) _).mono ?_; rintro e w' ⟨rfl, rfl⟩; simp only [preCells]) | (go_at_call 8; refine (same_any k _).mono ?_; rintro e w' ⟨rfl, rfl⟩))
      all_goals
        go_wp2_with fail
        go_roundw
        case rel => exact ⟨k + 1, by omega, by go_num, by repeat (first | exact hbel | refine Below.drew ?_ | refine Below.alloc ?_ (by have := hbel.size; simp; omega) _)⟩
        case measure => simp [intOf]; omega
    · go_wp2
      go_ret
      exact ⟨rfl, hB.trans (hbel.mono hB.size)⟩
end Go.Proofs.Ybulkdvws
