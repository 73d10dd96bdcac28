import Derived.Test.YbulkdvwsW12
namespace Go.Proofs.Ybulkdvws
open Go.RowKit

/-- append onto a row of the call's own, as one step of a region that draws. -/
theorem step_append_own {P : Program} {ops : Array Oper} {o : Oper} {a : Act} {w : World} {K : Act → World → Prop} {Q : Exit → Act → World → Prop} {E : Prop} (hg : o.guard = none) (s x : Operand) (t : TypeId)
    (ho : o.op = .call { callee := .builtin .append, args := #[s, x], argTypes := #[t, t] })
    (base : Nat) (e : TypeId) (i : TypeInfo) (z : Value) (size bytes : Nat) (ht : P.underlying t = some (.slice e)) (hi : P.info? e = some i) (hz : i.zero = some z)
    (hsize : i.size = size) (hby : i.bytes = bytes) (hzs : z.cells.size = size) (hsz : 0 < size)
    (v : Value) (n : Nat) (xs : List Value) (hs : a.eval s = v) (hown : w.ownsRow base e size v n xs)
    (ad : Addr) (m c : Nat) (news : List Value) (hx : a.eval x = .slice (some ad) m c) (hl : news.length = m * size) (hnews : ∀ j u, news[j]? = some u → w.cell? (ad.add j) = some u) (h1 : ∀ u ∈ news, u.oneCell' = true)
    (h63 : n + m ≤ maxLen) (hbytes : (n + m) * bytes ≤ 140737488355328) (hbase : base ≤ w.heap.size)
    (h : ∀ v' w', w'.ownsRow base e size v' (n + m) (xs ++ news) → w.grownBy w' v.ownBlock → K (a.put o.dst v') w') :
    if Region.wanted o (yielded ops a.tmps) = true then Oper.wp P o a w K Q else E := by
  have hw : Region.wanted o (yielded ops a.tmps) = true := by simp [Region.wanted, hg]
  rw [if_pos hw]
  exact wp_append_own w s x t ho base e i z size bytes ht hi hz hsize hby hzs hsz v n xs hs hown ad m c news hx hl hnews h1 h63 hbytes hbase fun v' w' h2 h3 _ => h v' w' h2 h3

theorem Yba.info45 : (Yba.prog.info? 45).map (fun i => (i.zero, i.size, i.bytes)) = some (some (.agg #[.int .u16 0, .int .u16 0]), 2, 4) := by kernel_rfl

/-- The cells of the first k ranges. -/
def rcells (ls hs : List Nat) : Nat → List Value
  | 0 => []
  | k + 1 => rcells ls hs k ++ [.int .u16 ((ls.getD k 0 : Nat) : Int), .int .u16 ((hs.getD k 0 : Nat) : Int)]
theorem rcells_len (ls hs : List Nat) (k : Nat) : (rcells ls hs k).length = k * 2 := by
  induction k with
  | zero => rfl
  | succ k ih => simp [rcells, ih]; omega
theorem rcells_get (ls hs : List Nat) (n k : Nat) (hk : k < n) : (rcells ls hs n)[k * 2]? = some (.int .u16 ((ls.getD k 0 : Nat) : Int)) ∧ (rcells ls hs n)[k * 2 + 1]? = some (.int .u16 ((hs.getD k 0 : Nat) : Int)) := by
  induction n with
  | zero => omega
  | succ n ih =>
    by_cases h : k < n
    · rw [rcells, List.getElem?_append_left (by rw [rcells_len]; omega), List.getElem?_append_left (by rw [rcells_len]; omega)]; exact ih h
    · obtain rfl : k = n := by omega
      rw [rcells, List.getElem?_append_right (by rw [rcells_len]; omega), List.getElem?_append_right (by rw [rcells_len]; omega), rcells_len, Nat.sub_self, show k * 2 + 1 - k * 2 = 1 by omega]
      exact ⟨rfl, rfl⟩

/-- What is owned, as a row of ranges. -/
theorem owned_ra {w : World} {base n X : Nat} {v : Value} {ls hs : List Nat} (h : w.ownsRow base 45 2 v n (rcells ls hs n)) (hX : X < base) : ∃ sa sc, v = .slice sa n sc ∧ RA X w sa n ls hs := by
  rcases h.2 with ⟨hv, h0⟩ | ⟨g, cap, cur, hv, hb, hh, _, _, _, htk⟩
  · exact ⟨none, 0, by rw [hv, h0], .inl h0⟩
  · refine ⟨some ⟨g, 0, none⟩, cap, hv, .inr ⟨g, 0, rfl, by omega, fun j hj => ?_, fun j hj => ?_⟩⟩
    · rw [cell_of_row w g _ cur 45 (0, 0) hh]
      have := (rcells_get ls hs n j hj).1
      rw [← htk, List.getElem?_take, if_pos (by omega)] at this
      simpa using this
    · rw [cell_of_row w g _ cur 45 (0, 0) hh]
      have := (rcells_get ls hs n j hj).2
      rw [← htk, List.getElem?_take, if_pos (by omega)] at this
      simpa using this

set_option maxRecDepth 1000000 in
set_option maxHeartbeats 4000000 in
theorem t9 (w0 w : World) {c0 c1 c7 c8 c9 c10 c11 c12 c13 c14 c16 c18 c19 c20 c22 c23 c24 c25 c26 c27 c28 c29 c30 c31 c32 c33 c34 c35 c36 c37 c38 c39 c40 c41 c42 c43 c44 c45 c46 c47 c48 c49 c50 c51 c52 c53 c54 c55 c56 c57 c58 c59 c60 c61 c62 c63 c64 c65 c66 c67 c68 c69 c70 c71 c72 c73 c74 c75 c76 c77 c78 c79 c80 c81 c82 c83 c84 c85 c86 c87 c88 c89 c90 c91 c92 c93 c94 c95 c96 c97 c98 c99 c100 c101 c102 c103 c104 c105 c106 c107 c108 c109 c110 c111 c112 c113 c114 c115 c116 c117 c118 c119 c120 c121 c122 c123 c124 c125 c126 c127 c128 c129 c130 c131 c132 c133 c134 c135 c136 c137 c138 c139 c140 c141 c142 c143 c144 c145 c146 c147 c148 c149 c150 c151 c152 c153 c154 c155 c156 c157 c158 c159 c160 c161 c162 c163 c164 c165 c166 c167 c168 c169 c170 c171 c172 c173 c174 c175 c176 c177 c178 c179 c180 c181 c182 c183 c184 c185 c186 c187 c188 c189 c190 c191 c192 c193 c194 c195 c196 c197 c198 c199 c200 c201 c202 c203 c204 c205 c206 c207 c208 c209 c210 c211 c212 c213 c214 c215 c216 c217 c218 c219 c220 c221 c222 c223 c224 c225 c226 c227 c228 c229 c230 c231 c232 c233 c234 c235 c236 c237 c238 c239 c240 c241 c242 c243 c244 c245 c246 c247 c248 c249 c250 c251 c252 c253 c254 c255 c256 c257 c258 c259 c260 c261 c262 c263 c264 c265 c266 c267 c268 c269 c270 c271 c272 c273 c274 c275 c276 c277 c278 c279 c280 c281 c282 c283 c284 c285 c286 c287 c288 c289 c290 c291 c292 c293 c294 c295 c296 c297 c298 c299 c300 c301 c302 c303 c304 c305 c306 c307 c308 c309 c310 c311 c312 c313 c314 c315 c316 c317 c318 c319 c320 c321 c322 c323 c324 c325 c326 c327 c328 c329 c330 c331 c332 c333 c334 c335 c336 c337 c338 c339 c340 c341 c342 c343 c344 c345 c346 c347 c348 c349 c350 c351 c352 c353 c354 c355 c356 c357 c358 c359 c360 c361 c362 c363 : Value} (c g bIn cnt rn n4 jn c4' tc rc jc x0 x1 : Nat) (a4 ta ra ja : Option Addr) (op out alv ar ar2 st sl d0 : Int) (tl : Bool) (ls hs : List Nat) (zs js : List Int)
    (hcnt : cnt ≤ 16386) (hrn : rn ≤ 1048576) (hn4 : n4 ≤ 1048576) (hjn : jn ≤ 1048576) (hx0 : x0 < 2 ^ 64) (hx1 : x1 < 2 ^ 64) (hls : ∀ j, ls.getD j 0 ≤ 65535) (hhs : ∀ j, hs.getD j 0 ≤ 65535) (hnil : ja = none → jn = 0 ∧ jc = 0)
    (hC : CBlock w c (.slice (some ⟨g, 0, none⟩) cnt cnt) st sl d0 (.slice ta n4 tc) tl) (hgc : g ≠ c) (hic : bIn ≠ c) (hG : w.heap[g]? = some (.cells (pres cnt).toArray 34 (0, 0)))
    (hI : InBox w bIn op out alv ar ar2 (.slice ra rn rc) x0 x1 (.slice ja jn jc)) (hwc : w0.heap.size ≤ c)
    (r2 : RA c w ra rn ls hs) (i1 : IA c w ta n4 zs) (i2 : IA c w a4 n4 zs) (i4 : IA c w ja jn js) (hB : Below w0.heap.size w0 w) :
    Code.wp Yba.prog (sndN 9 (Yba.f3.body.getD .skip)) (bodyPost Yba.prog Yba.f3 (fun e w' => e = .returned (.bool true) ∧ Below w0.heap.size w0 w')) ⟨#[c0, c1, .int .i64 d0, .bool tl, .slice a4 n4 c4', .int .i64 sl, .int .i64 st, c7, c8, c9, c10, c11, c12, c13, c14, .pointer (some ⟨bIn, 0, none⟩), c16, .int .i64 (cnt : Nat), c18, c19, c20, .pointer (some ⟨c, 0, none⟩), c22, c23, c24, c25, c26, c27, c28, c29, c30, c31, c32, c33, c34, c35, c36, c37, c38, c39, c40, c41, c42, c43, c44, c45, c46, c47, c48, c49, c50, c51, c52, c53, c54, c55, c56, c57, c58, c59, c60, c61, c62, c63, c64, c65, c66, c67, c68, c69, c70, c71, c72, c73, c74, c75, c76, c77, c78, c79, c80, c81, c82, c83, c84, c85, c86, c87, c88, c89, c90, c91, c92, c93, c94, c95, c96, c97, c98, c99, c100, c101, c102, c103, c104, c105, c106, c107, c108, c109, c110, c111, c112, c113, c114, c115, c116, c117, c118, c119, c120, c121, c122, c123, c124, c125, c126, c127, c128, c129, c130, c131, c132, c133, c134, c135, c136, c137, c138, c139, c140, c141, c142, c143, c144, c145, c146, c147, c148, c149, c150, c151, c152, c153, c154, c155, c156, c157, c158, c159, c160, c161, c162, c163, c164, c165, c166, c167, c168, c169, c170, c171, c172, c173, c174, c175, c176, c177, c178, c179, c180, c181, c182, c183, c184, c185, c186, c187, c188, c189, c190, c191, c192, c193, c194, c195, c196, c197, c198, c199, c200, c201, c202, c203, c204, c205, c206, c207, c208, c209, c210, c211, c212, c213, c214, c215, c216, c217, c218, c219, c220, c221, c222, c223, c224, c225, c226, c227, c228, c229, c230, c231, c232, c233, c234, c235, c236, c237, c238, c239, c240, c241, c242, c243, c244, c245, c246, c247, c248, c249, c250, c251, c252, c253, c254, c255, c256, c257, c258, c259, c260, c261, c262, c263, c264, c265, c266, c267, c268, c269, c270, c271, c272, c273, c274, c275, c276, c277, c278, c279, c280, c281, c282, c283, c284, c285, c286, c287, c288, c289, c290, c291, c292, c293, c294, c295, c296, c297, c298, c299, c300, c301, c302, c303, c304, c305, c306, c307, c308, c309, c310, c311, c312, c313, c314, c315, c316, c317, c318, c319, c320, c321, c322, c323, c324, c325, c326, c327, c328, c329, c330, c331, c332, c333, c334, c335, c336, c337, c338, c339, c340, c341, c342, c343, c344, c345, c346, c347, c348, c349, c350, c351, c352, c353, c354, c355, c356, c357, c358, c359, c360, c361, c362, c363], []⟩ w := by
  show Code.wp _ (Code.seq _ _) _ _ _
  have hcw : c < w.heap.size := (Array.getElem?_eq_some_iff.1 hC).1
  have hgw : g < w.heap.size := (Array.getElem?_eq_some_iff.1 hG).1
  have hiw : bIn < w.heap.size := (Array.getElem?_eq_some_iff.1 hI).1
  obtain ⟨-, -, -, -, -, y5, -, -, -⟩ := hI.all
  have HC := hide' hC
  have HG := hide' hG
  have HI := hide' hI
  have R2 := hide' r2
  have I1 := hide' i1
  have I2 := hide' i2
  have I4 := hide' i4
  have HB := hide' hB
  have HLS := hide' hls
  have HHS := hide' hhs
  clear hC hG r2 i1 i2 i4 hB hI hls hhs
  obtain ⟨i0, hi, hz0, hz1, hz2⟩ := info_parts Yba.info45
  refine seq_hid fun K1 HK1 => ?_
  go_wp2_with fail
  refine HK1.out _ _ ?_
  clear HK1
  refine seq_hid fun K2 HK2 => ?_
  go_wp2_with fail
  go_loopw [22, 23] (fun v i wr => ∃ k : Nat, k ≤ rn ∧ i = .int .i64 k ∧ wr.ownsRow w.heap.size 45 2 v k (rcells ls hs k) ∧ Below w.heap.size w wr) (fun _ i _ => rn - (intOf i).toNat)
  case atStart => exact ⟨0, Nat.zero_le _, rfl, World.ownsRow_nil _ _ _ _, Below.refl _ _⟩
  case round =>
    obtain ⟨k, hk, rfl, hown, hbel⟩ := hrel
    have e5 := (hbel.cell (p := ⟨bIn, 5, none⟩) hiw).trans y5
    by_cases hlt : k < rn
    · obtain ⟨rb, ro, rfl, hrb, hl, hh⟩ : ∃ b off, ra = some ⟨b, off, none⟩ ∧ b < w.heap.size ∧ w.cell? ⟨b, off + k * 2, none⟩ = some (.int .u16 ((ls.getD k 0 : Nat) : Int)) ∧ w.cell? ⟨b, off + k * 2 + 1, none⟩ = some (.int .u16 ((hs.getD k 0 : Nat) : Int)) := by
        rcases R2.out with h | ⟨b, off, hr, _, h1, h2⟩
        · omega
        · exact ⟨b, off, hr, World.block_lt_of_cell? w _ (h1 k hlt), h1 k hlt, h2 k hlt⟩
      have gl := (hbel.cell (p := ⟨rb, ro + k * 2, none⟩) hrb).trans hl
      have gh := (hbel.cell (p := ⟨rb, ro + k * 2 + 1, none⟩) hrb).trans hh
      clear hl hh y5
      have hws : w.heap.size ≤ wr.heap.size := hbel.size
      have HO := hide' hown
      have HBL := hide' hbel
      clear hown hbel
      generalize hlv : ls.getD k 0 = lv at gl
      generalize hhv : hs.getD k 0 = hv at gh
      have HL := hide' hlv
      have HV := hide' hhv
      clear hlv hhv
      have hlt' : (k : Int) < (rn : Int) := by omega
      have HN : Hid (∀ j u, ([.int .u16 (lv : Nat), .int .u16 (hv : Nat)] : List Value)[j]? = some u → (wr.alloc (.cells #[.int .u16 (lv : Nat), .int .u16 (hv : Nat)] 45)).drew.cell? ((⟨wr.heap.size, 0, none⟩ : Addr).add j) = some u) := by
        intro j u hj
        show (wr.alloc _).cell? _ = _
        rw [add_plain, World.cell?_alloc_at _ _ _ _ rfl]
        simpa using hj
      go_wp2_with fail
      go_region_law (refine step_append_own rfl (.tmp 88) (.tmp 102) 32 rfl w.heap.size 45 i0 _ 2 4 Yba.underlying32 hi hz0 hz1 hz2 rfl (by decide) _ k (rcells ls hs k) rfl (HO.out.alloc _) ⟨wr.heap.size, 0, none⟩ 1 1 [.int .u16 (lv : Nat), .int .u16 (hv : Nat)] (by simp [Act.eval]) rfl HN.out (by simp [Value.oneCell']) (by simp only [maxLen]; omega) (by omega) (by show w.heap.size ≤ (wr.alloc _).heap.size; simp; omega) ?_; intro v' w' hown hgrow; have HO' := hide' hown; have HGR := hide' hgrow; clear hown hgrow)
      all_goals
        go_wp2_with fail
        go_roundw
        case rel => exact ⟨k + 1, by omega, by go_num, by have h := HO'.out; rw [← HL.out, ← HV.out] at h; exact h, ((HBL.out.alloc hws _).drew).grown HGR.out (by show w.heap.size ≤ (wr.alloc _).heap.size; simp; omega) (fun j hj => (HO.out.lt j hj).1)⟩
        case measure => simp [intOf]; omega
    · obtain rfl : k = rn := by omega
      obtain ⟨sa, sc, hv, r1⟩ := owned_ra hown hcw
      subst hv
      have R1 := hide' r1
      have HBL := hide' hbel
      clear r1 hown hbel
      go_wp2_with fail
      have hb2 := HBL.out
      have hk : ∀ j, j < w.heap.size → j ≠ w.heap.size → wr.heap[j]? = w.heap[j]? := fun j hj _ => hb2.block j hj
      exact HK2.out _ _ (t11 w0 wr c g bIn cnt k n4 jn c4' tc sc rc jc x0 x1 a4 ta sa ra ja op out alv ar ar2 st sl d0 tl ls hs zs js hcnt hrn hn4 hjn hx0 hx1 HLS.out HHS.out hnil ((hb2.block c hcw).trans HC.out) hgc hic ((hb2.block g hgw).trans HG.out) ((hb2.block bIn hiw).trans HI.out) hwc
        R1.out (R2.out.kept (.inr (Nat.le_refl _)) hk) (I1.out.kept (.inr (Nat.le_refl _)) hk) (I2.out.kept (.inr (Nat.le_refl _)) hk) (I4.out.kept (.inr (Nat.le_refl _)) hk) (HB.out.trans (hb2.mono HB.out.size)))
end Go.Proofs.Ybulkdvws
