import Derived.Test.YbulkdvwsW7
namespace Go.Proofs.Ybulkdvws
open Go.RowKit

theorem tb_inj {b0 b1 a0 a1 : Nat} (hb0 : b0 < 2 ^ 64) (hb1 : b1 < 2 ^ 64) (ha0 : a0 < 2 ^ 64) (ha1 : a1 < 2 ^ 64) (h : ∀ p, p < 128 → tb b0 b1 p = tb a0 a1 p) : b0 = a0 ∧ b1 = a1 := by
  constructor
  · refine Nat.eq_of_testBit_eq fun i => ?_
    by_cases hi : i < 64
    · have := h i (by omega)
      simpa [tb, hi] using this
    · rw [Nat.testBit_lt_two_pow (Nat.lt_of_lt_of_le hb0 (Nat.pow_le_pow_right (by decide) (by omega))), Nat.testBit_lt_two_pow (Nat.lt_of_lt_of_le ha0 (Nat.pow_le_pow_right (by decide) (by omega)))]
  · refine Nat.eq_of_testBit_eq fun i => ?_
    by_cases hi : i < 64
    · have := h (64 + i) (by omega)
      simpa [tb, show ¬ (64 + i < 64) by omega] using this
    · rw [Nat.testBit_lt_two_pow (Nat.lt_of_lt_of_le hb1 (Nat.pow_le_pow_right (by decide) (by omega))), Nat.testBit_lt_two_pow (Nat.lt_of_lt_of_le ha1 (Nat.pow_le_pow_right (by decide) (by omega)))]

theorem any_miss {ls hs : List Nat} {i k lv hv : Nat} (h : anyR ls hs i k = false) (hl : ls.getD i 0 = lv) (hh : hs.getD i 0 = hv) (hx : ¬ (lv ≤ k ∧ k ≤ hv)) : anyR ls hs (i + 1) k = false := by
  rw [anyR_succ, h, hl, hh]; simp; omega
theorem any_hit {ls hs : List Nat} {i n k lv hv : Nat} (hi : i < n) (hl : ls.getD i 0 = lv) (hh : hs.getD i 0 = hv) (h1 : lv ≤ k) (h2 : k ≤ hv) : anyR ls hs n k = true := by
  unfold anyR
  rw [List.any_eq_true]
  exact ⟨i, by simpa using hi, by rw [hl, hh]; simp [h1, h2]⟩
theorem bits_miss {ls hs : List Nat} {n k b0 b1 x0 x1 : Nat} (ht : ∀ p, p < 128 → tb b0 b1 p = (tb x0 x1 p || (decide (p < k) && anyR ls hs n p))) (hx : anyR ls hs n k = false) : ∀ p, p < 128 → tb b0 b1 p = (tb x0 x1 p || (decide (p < k + 1) && anyR ls hs n p)) := by
  intro p hp
  rw [ht p hp]
  by_cases e : p = k
  · subst e; simp [hx]
  · congr 2
    rw [Bool.eq_iff_iff]; simp; omega
theorem bits_hit {ls hs : List Nat} {n k b0 b1 b0' b1' x0 x1 : Nat} (ht : ∀ p, p < 128 → tb b0 b1 p = (tb x0 x1 p || (decide (p < k) && anyR ls hs n p))) (hs' : ∀ p, p < 128 → tb b0' b1' p = (tb b0 b1 p || decide (p = k))) (hx : anyR ls hs n k = true) :
    ∀ p, p < 128 → tb b0' b1' p = (tb x0 x1 p || (decide (p < k + 1) && anyR ls hs n p)) := by
  intro p hp
  rw [hs' p hp, ht p hp, Bool.or_assoc]
  congr 1
  by_cases e : p = k
  · subst e; simp [hx]
  · rw [Bool.eq_iff_iff]; simp [e]
    intro _; omega
theorem bits_hit_lo {w wr : World} {ls hs : List Nat} {i n k lv hv b0 b1 x0 x1 : Nat} (hW : wr.heap[w.heap.size]? = some (.cells #[.int .u64 (b0 : Nat), .int .u64 (b1 : Nat)] 26 (0, 0))) (hbel : Below w.heap.size w wr) (hsz : w.heap.size < wr.heap.size) (hb0 : b0 < 2 ^ 64) (hb1 : b1 < 2 ^ 64)
    (ht : ∀ p, p < 128 → tb b0 b1 p = (tb x0 x1 p || (decide (p < k) && anyR ls hs n p))) (hl : ls.getD i 0 = lv) (hh : hs.getD i 0 = hv) (hi : i < n) (e1 : lv ≤ k) (e2 : k ≤ hv) (h64 : k < 64) :
    ∃ k' b0' b1' : Nat, k' ≤ 128 ∧ Value.int .i64 ((k : Int) + 1) = .int .i64 k' ∧ (wr.setCell ⟨w.heap.size, 0, none⟩ (.int .u64 (bits .or .u64 (b0 : Int) (IntKind.u64.wrap (2 ^ k))))).heap[w.heap.size]? = some (.cells #[.int .u64 (b0' : Nat), .int .u64 (b1' : Nat)] 26 (0, 0)) ∧
      Below w.heap.size w (wr.setCell ⟨w.heap.size, 0, none⟩ (.int .u64 (bits .or .u64 (b0 : Int) (IntKind.u64.wrap (2 ^ k))))) ∧ w.heap.size < (wr.setCell ⟨w.heap.size, 0, none⟩ (.int .u64 (bits .or .u64 (b0 : Int) (IntKind.u64.wrap (2 ^ k))))).heap.size ∧ b0' < 2 ^ 64 ∧ b1' < 2 ^ 64 ∧
      ∀ p, p < 128 → tb b0' b1' p = (tb x0 x1 p || (decide (p < k') && anyR ls hs n p)) := by
  rw [or_bit b0 k hb0 h64]
  refine ⟨k + 1, b0 ||| 2 ^ k, b1, by omega, by simp, by simp [World.setCell, Array.getElem?_modify, hW], hbel.setCell (Nat.le_refl _) _, by simpa [World.setCell] using hsz, or_bit_lt _ _ hb0 h64, hb1, bits_hit ht (tb_lo _ _ _ h64) (any_hit hi hl hh e1 e2)⟩
theorem bits_hit_hi {w wr : World} {ls hs : List Nat} {i n k lv hv b0 b1 x0 x1 : Nat} (hW : wr.heap[w.heap.size]? = some (.cells #[.int .u64 (b0 : Nat), .int .u64 (b1 : Nat)] 26 (0, 0))) (hbel : Below w.heap.size w wr) (hsz : w.heap.size < wr.heap.size) (hb0 : b0 < 2 ^ 64) (hb1 : b1 < 2 ^ 64)
    (ht : ∀ p, p < 128 → tb b0 b1 p = (tb x0 x1 p || (decide (p < k) && anyR ls hs n p))) (hl : ls.getD i 0 = lv) (hh : hs.getD i 0 = hv) (hi : i < n) (e1 : lv ≤ k) (e2 : k ≤ hv) (h64 : 64 ≤ k) (h128 : k < 128) :
    ∃ k' b0' b1' : Nat, k' ≤ 128 ∧ Value.int .i64 ((k : Int) + 1) = .int .i64 k' ∧ (wr.setCell ⟨w.heap.size, 1, none⟩ (.int .u64 (bits .or .u64 (b1 : Int) (IntKind.u64.wrap (2 ^ (k - 64)))))).heap[w.heap.size]? = some (.cells #[.int .u64 (b0' : Nat), .int .u64 (b1' : Nat)] 26 (0, 0)) ∧
      Below w.heap.size w (wr.setCell ⟨w.heap.size, 1, none⟩ (.int .u64 (bits .or .u64 (b1 : Int) (IntKind.u64.wrap (2 ^ (k - 64)))))) ∧ w.heap.size < (wr.setCell ⟨w.heap.size, 1, none⟩ (.int .u64 (bits .or .u64 (b1 : Int) (IntKind.u64.wrap (2 ^ (k - 64)))))).heap.size ∧ b0' < 2 ^ 64 ∧ b1' < 2 ^ 64 ∧
      ∀ p, p < 128 → tb b0' b1' p = (tb x0 x1 p || (decide (p < k') && anyR ls hs n p)) := by
  rw [or_bit b1 (k - 64) hb1 (by omega)]
  refine ⟨k + 1, b0, b1 ||| 2 ^ (k - 64), by omega, by simp, by simp [World.setCell, Array.getElem?_modify, hW], hbel.setCell (Nat.le_refl _) _, by simpa [World.setCell] using hsz, hb0, or_bit_lt _ _ hb1 (by omega), bits_hit ht (tb_hi _ _ _ h64) (any_hit hi hl hh e1 e2)⟩

set_option maxRecDepth 1000000 in
set_option maxHeartbeats 4000000 in
theorem e4 (w0 w : World) {c0 c1 c2 c3 c5 c6 c7 c8 c9 c10 c11 c12 c13 c14 c16 c18 c19 c20 c22 c23 c24 c25 c26 c27 c28 c29 c30 c31 c32 c33 c34 c35 c36 c37 c38 c39 c40 c41 c42 c43 c44 c45 c46 c47 c48 c49 c50 c51 c52 c53 c54 c55 c56 c57 c58 c59 c60 c61 c62 c63 c64 c65 c66 c67 c68 c69 c70 c71 c72 c73 c74 c75 c76 c77 c78 c79 c80 c81 c82 c83 c84 c85 c86 c87 c88 c89 c90 c91 c92 c93 c94 c95 c96 c97 c98 c99 c100 c101 c102 c103 c104 c105 c106 c107 c108 c109 c110 c111 c112 c113 c114 c115 c116 c117 c118 c119 c120 c121 c122 c123 c124 c125 c126 c127 c128 c129 c130 c131 c132 c133 c134 c135 c136 c137 c138 c139 c140 c141 c142 c143 c144 c145 c146 c147 c148 c149 c150 c151 c152 c153 c154 c155 c156 c157 c158 c159 c160 c161 c162 c163 c164 c165 c166 c167 c168 c169 c170 c171 c172 c173 c174 c175 c176 c177 c178 c179 c180 c181 c182 c183 c184 c185 c186 c187 c188 c189 c190 c191 c192 c193 c194 c195 c196 c197 c198 c199 c200 c201 c202 c203 c204 c205 c206 c207 c208 c209 c210 c211 c212 c213 c214 c215 c216 c217 c218 c219 c220 c221 c222 c223 c224 c225 c226 c227 c228 c229 c230 c231 c232 c233 c234 c235 c236 c237 c238 c239 c240 c241 c242 c243 c244 c245 c246 c247 c248 c249 c250 c251 c252 c253 c254 c255 c256 c257 c258 c259 c260 c261 c262 c263 c264 c265 c266 c267 c268 c269 c270 c271 c272 c273 c274 c275 c276 c277 c278 c279 c280 c281 c282 c283 c284 c285 c286 c287 c288 c289 c290 c291 c292 c293 c294 c295 c296 c297 c298 c299 c300 c301 c302 c303 c304 c305 c306 c307 c308 c309 c310 c311 c312 c313 c314 c315 c316 c317 c318 c319 c320 c321 c322 c323 c324 c325 c326 c327 c328 c329 c330 c331 c332 c333 c334 c335 c336 c337 c338 c339 c340 c341 c342 c343 c344 c345 c346 c347 c348 c349 c350 c351 c352 c353 c354 c355 c356 c357 c358 c359 c360 c361 c362 c363 : Value} (K : Act → World → Prop) (HK : Hid (∀ a w, (sndN 18 (Yba.f3.body.getD .skip)).wp Yba.prog (bodyPost Yba.prog Yba.f3 (fun e w' => e = .returned (.bool true) ∧ Below w0.heap.size w0 w')) a w → K a w))
    (c g cap cnt bIn rn n4 c4' tc sc rc x0 x1 a0 a1 X1 X2 X3 X4 : Nat) (a4 ta sa ra : Option Addr) (cur : Array Value) (op out alv ar ar2 st sl d : Int) (tl : Bool) (jv : Value) (ls hs : List Nat) (zs : List Int) (hcnt : cnt < 16384) (hrn : rn ≤ 1048576) (hn4 : n4 ≤ 1048576)
    (hC : CBlock w c (.slice (some ⟨g, 0, none⟩) (cnt + 1) cap) st sl d (.slice ta n4 tc) tl)
    (hG : w.heap[g]? = some (.cells cur 34 (0, 0))) (ht : cur.toList.take ((cnt + 1) * 9) = pres cnt ++ newCells op out alv ar ar2 (.slice sa rn sc) a0 a1 (.slice ta n4 tc))
    (hI : InBox w bIn op out alv ar ar2 (.slice ra rn rc) x0 x1 jv) (ha0 : a0 < 2 ^ 64) (ha1 : a1 < 2 ^ 64) (hx0 : x0 < 2 ^ 64) (hx1 : x1 < 2 ^ 64) (hls : ∀ j, ls.getD j 0 ≤ 65535) (hhs : ∀ j, hs.getD j 0 ≤ 65535)
    (htb : ∀ p, p < 128 → tb a0 a1 p = (tb x0 x1 p || anyR ls hs rn p))
    (r1 : RA X1 w sa rn ls hs) (r2 : RA X2 w ra rn ls hs) (i1 : IA X3 w ta n4 zs) (i2 : IA X4 w a4 n4 zs) (hB : Below w0.heap.size w0 w) :
    Code.wp Yba.prog (sndN 4 (elseC (fstC (sndN 17 (Yba.f3.body.getD .skip))))) (Exit.then K (bodyPost Yba.prog Yba.f3 (fun e w' => e = .returned (.bool true) ∧ Below w0.heap.size w0 w'))) ⟨#[c0, c1, c2, c3, .slice a4 n4 c4', c5, c6, c7, c8, c9, c10, c11, c12, c13, c14, .pointer (some ⟨bIn, 0, none⟩), c16, .int .i64 (cnt : Nat), c18, c19, c20, .pointer (some ⟨c, 0, none⟩), c22, c23, c24, c25, c26, c27, c28, c29, c30, c31, c32, c33, c34, c35, c36, c37, c38, c39, c40, c41, c42, c43, c44, c45, c46, c47, c48, c49, c50, c51, c52, c53, c54, c55, c56, c57, c58, c59, c60, c61, c62, c63, c64, c65, c66, c67, c68, c69, c70, c71, c72, c73, c74, c75, c76, c77, c78, c79, c80, c81, c82, c83, c84, c85, c86, c87, c88, c89, c90, c91, c92, c93, c94, c95, c96, c97, c98, c99, c100, c101, c102, c103, c104, c105, c106, c107, c108, c109, c110, c111, c112, c113, c114, c115, c116, c117, c118, c119, c120, c121, c122, c123, c124, c125, c126, c127, c128, c129, c130, c131, c132, c133, c134, c135, c136, c137, c138, c139, c140, c141, c142, c143, c144, c145, c146, c147, c148, c149, c150, c151, c152, c153, c154, c155, c156, c157, c158, c159, c160, c161, c162, c163, c164, c165, c166, c167, c168, c169, c170, c171, c172, c173, c174, c175, c176, c177, c178, c179, c180, c181, c182, c183, c184, c185, c186, c187, c188, c189, c190, c191, c192, c193, c194, c195, c196, c197, c198, c199, c200, c201, c202, c203, c204, c205, c206, c207, c208, c209, c210, c211, c212, c213, c214, c215, c216, c217, c218, c219, c220, c221, c222, c223, c224, c225, c226, c227, c228, c229, c230, c231, c232, c233, c234, c235, c236, c237, c238, c239, c240, c241, c242, c243, c244, c245, c246, c247, c248, c249, c250, c251, c252, c253, c254, c255, c256, c257, c258, c259, c260, c261, c262, c263, c264, c265, c266, c267, c268, c269, c270, c271, c272, c273, c274, c275, c276, c277, c278, c279, c280, c281, c282, c283, c284, c285, c286, c287, c288, c289, c290, c291, c292, c293, c294, c295, c296, c297, c298, c299, c300, c301, c302, c303, c304, c305, c306, c307, c308, c309, c310, c311, c312, c313, c314, c315, c316, c317, c318, c319, c320, c321, c322, c323, c324, c325, c326, c327, c328, c329, c330, c331, c332, c333, c334, c335, c336, c337, c338, c339, c340, c341, c342, c343, c344, c345, c346, c347, c348, c349, c350, c351, c352, c353, c354, c355, c356, c357, c358, c359, c360, c361, c362, c363], []⟩ w := by
  show Code.wp _ (Code.seq _ _) _ _ _
  have hiw : bIn < w.heap.size := (Array.getElem?_eq_some_iff.1 hI).1
  obtain ⟨y0, y1, y2, y3, y4, y5, y6, y7, y8⟩ := hI.all
  have HC := hide' hC
  have HG := hide' hG
  have HI := hide' hI
  have HT := hide' ht
  have R1 := hide' r1
  have R2 := hide' r2
  have I1 := hide' i1
  have I2 := hide' i2
  have HB := hide' hB
  have HTB := hide' htb
  have HLS := hide' hls
  have HHS := hide' hhs
  clear hC hG ht r1 r2 i1 i2 hB hI htb y0 y1 y2 y3 y4 y8 hls hhs
  refine seq_hid fun K1 HK1 => ?_
  go_wp2_with fail
  refine HK1.out _ _ ?_
  refine seq_hid fun K2 HK2 => ?_
  clear HK1
  go_wp2_with fail
  go_loopw [29] (fun u wr => ∃ k b0 b1 : Nat, k ≤ 128 ∧ u = .int .i64 k ∧ wr.heap[w.heap.size]? = some (.cells #[.int .u64 (b0 : Nat), .int .u64 (b1 : Nat)] 26 (0, 0)) ∧ Below w.heap.size w wr ∧ w.heap.size < wr.heap.size ∧ b0 < 2 ^ 64 ∧ b1 < 2 ^ 64 ∧ ∀ p, p < 128 → tb b0 b1 p = (tb x0 x1 p || (decide (p < k) && anyR ls hs rn p))) (fun u _ => 128 - (intOf u).toNat)
  case atStart => exact ⟨0, x0, x1, by omega, rfl, heap_alloc_new w _, (Below.refl _ _).alloc (Nat.le_refl _) _, by simp, hx0, hx1, fun p _ => by simp⟩
  case round =>
    obtain ⟨k, b0, b1, hk, rfl, hW, hbel, hsz, hb0, hb1, ht⟩ := hrel
    by_cases hlt : k < 128
    · have e5 := (hbel.cell (p := ⟨bIn, 5, none⟩) hiw).trans y5
      have HW := hide' hW
      have v0 : wr.cell? ⟨w.heap.size, 0, none⟩ = some (.int .u64 (b0 : Nat)) := by simp [World.cell?, hW]
      have v1 : wr.cell? ⟨w.heap.size, 1, none⟩ = some (.int .u64 (b1 : Nat)) := by simp [World.cell?, hW]
      have z0 : wr.frozen? ⟨w.heap.size, 0, none⟩ = false := by simp [World.frozen?, hW]
      have z1 : wr.frozen? ⟨w.heap.size, 1, none⟩ = false := by simp [World.frozen?, hW]
      have HBL := hide' hbel
      have HT' := hide' ht
      clear hW ht y5 y6 y7 hbel
      go_wp2_with fail
      go_loop [30] (fun j => ∃ i : Nat, i ≤ rn ∧ j = .int .i64 i ∧ anyR ls hs i k = false) (fun j => rn - (intOf j).toNat)
      case atStart => exact ⟨0, Nat.zero_le _, rfl, rfl⟩
      case round =>
        obtain ⟨i, hi, rfl, hany⟩ := hrel
        have HA := hide' hany
        clear hany
        by_cases hir : i < rn
        · obtain ⟨rb, ro, rfl, hrb, hl, hh⟩ : ∃ b off, ra = some ⟨b, off, none⟩ ∧ b < w.heap.size ∧ w.cell? ⟨b, off + i * 2, none⟩ = some (.int .u16 ((ls.getD i 0 : Nat) : Int)) ∧ w.cell? ⟨b, off + i * 2 + 1, none⟩ = some (.int .u16 ((hs.getD i 0 : Nat) : Int)) := by
            rcases R2.out with h | ⟨b, off, hr, _, h1, h2⟩
            · omega
            · exact ⟨b, off, hr, World.block_lt_of_cell? w _ (h1 i hir), h1 i hir, h2 i hir⟩
          have gl := (HBL.out.cell (p := ⟨rb, ro + i * 2, none⟩) hrb).trans hl
          have gh := (HBL.out.cell (p := ⟨rb, ro + i * 2 + 1, none⟩) hrb).trans hh
          have bl := HLS.out i
          have bh := HHS.out i
          clear hl hh
          generalize hlv : ls.getD i 0 = lv at gl bl
          generalize hhv : hs.getD i 0 = hv at gh bh
          have HL := hide' hlv
          have HV := hide' hhv
          clear hlv hhv
          have hir' : (i : Int) < (rn : Int) := by omega
          by_cases e1 : lv ≤ k
          · by_cases e2 : k ≤ hv
            · by_cases h64 : k < 64
              · have hq : (k : Int) / 64 = 0 := by omega
                have hq2 : (k : Int) % 64 = (k : Int) := by omega
                go_wp2_with fail
                go_roundw
                case rel => exact bits_hit_lo HW.out HBL.out hsz hb0 hb1 HT'.out HL.out HV.out hir e1 e2 h64
                case measure => simp [intOf]; omega
              · have hq : (k : Int) / 64 = 1 := by omega
                have hq2 : (k : Int) % 64 = ((k - 64 : Nat) : Int) := by omega
                go_wp2_with fail
                go_roundw
                case rel => exact bits_hit_hi HW.out HBL.out hsz hb0 hb1 HT'.out HL.out HV.out hir e1 e2 (by omega) hlt
                case measure => simp [intOf]; omega
            · go_wp2_with fail
              go_round
              case rel => exact ⟨i + 1, by omega, by go_num, any_miss HA.out HL.out HV.out (by omega)⟩
              case measure => simp [intOf]; omega
          · go_wp2_with fail
            go_round
            case rel => exact ⟨i + 1, by omega, by go_num, any_miss HA.out HL.out HV.out (by omega)⟩
            case measure => simp [intOf]; omega
        · go_wp2_with fail
          go_roundw
          case rel => exact ⟨k + 1, b0, b1, by omega, by go_num, HW.out, HBL.out, hsz, hb0, hb1, bits_miss HT'.out ((show i = rn by omega) ▸ HA.out)⟩
          case measure => simp [intOf]; omega
    · go_wp2_with fail
      obtain ⟨rfl, rfl⟩ : b0 = a0 ∧ b1 = a1 := tb_inj hb0 hb1 ha0 ha1 (fun p hp => by
        rw [ht p hp, HTB.out p hp]
        have : p < k := by omega
        simp [this])
      have hk' : ∀ j, j < w.heap.size → j ≠ w.heap.size → wr.heap[j]? = w.heap[j]? := fun j hj _ => hbel.block j hj
      have hcw : c < w.heap.size := (Array.getElem?_eq_some_iff.1 HC.out).1
      have hgw : g < w.heap.size := (Array.getElem?_eq_some_iff.1 HG.out).1
      exact HK2.out _ _ (e6 w0 wr K HK c g cap cnt bIn w.heap.size rn n4 c4' tc sc rc x0 x1 b0 b1 X1 X2 X3 X4 a4 ta sa ra cur op out alv ar ar2 st sl d tl jv ls hs zs hcnt hrn hn4
        ((hbel.block c hcw).trans HC.out) ((hbel.block g hgw).trans HG.out) HT.out ((hbel.block bIn hiw).trans HI.out) hW (R1.out.kept (.inr (Nat.le_refl _)) hk') (R2.out.kept (.inr (Nat.le_refl _)) hk') (I1.out.kept (.inr (Nat.le_refl _)) hk') (I2.out.kept (.inr (Nat.le_refl _)) hk') (HB.out.trans (hbel.mono HB.out.size)))
end Go.Proofs.Ybulkdvws
