import Derived.Test.YbulkdvxuX8
import Derived.Deep.Slices
namespace Go.Proofs.Ybulkdvxu
open Go.RowKit

/-- How many targets the first k processes have. -/
def Fs (n : Nat) (L : Nat → Nat) : Nat → Nat
  | 0 => 0
  | k + 1 => Fs n L k + if n = 0 then 0 else L k
/-- The targets of the first k processes, and q of the next. -/
def tl (n : Nat) (L : Nat → Nat) (V : Nat → Nat → Int) : Nat → List Nat
  | 0 => []
  | k + 1 => if n = 0 then tl n L V k else tl n L V k ++ (List.range (L k)).map fun j => tmN n (V k j)
theorem tl_len (n : Nat) (L : Nat → Nat) (V : Nat → Nat → Int) (k : Nat) : (tl n L V k).length = Fs n L k := by
  induction k with
  | zero => rfl
  | succ k ih => simp only [tl, Fs]; split <;> simp [ih]
theorem tl_lt (n : Nat) (L : Nat → Nat) (V : Nat → Nat → Int) (k : Nat) : ∀ t ∈ tl n L V k, t < n := by
  induction k with
  | zero => simp [tl]
  | succ k ih =>
    simp only [tl]
    split
    · exact ih
    · rename_i h0
      intro t ht
      rw [List.mem_append] at ht
      rcases ht with ht | ht
      · exact ih t ht
      · simp at ht
        obtain ⟨j, _, rfl⟩ := ht
        exact tmN_lt n _ h0
theorem Fs_mono (n : Nat) (L : Nat → Nat) {i k : Nat} (h : i ≤ k) : Fs n L i ≤ Fs n L k := by
  induction k with
  | zero => obtain rfl : i = 0 := by omega
            exact Nat.le_refl _
  | succ k ih =>
    by_cases e : i = k + 1
    · subst e; exact Nat.le_refl _
    · have := ih (by omega)
      simp only [Fs]; omega

/-- The processes' row while it is filled. -/
def PS (w : World) (gp pn k : Nat) (h : Bool) (F : Nat → Nat) : Prop :=
  ∃ cur, w.heap[gp]? = some (.cells cur 29 (0, 0)) ∧ cur.size = pn * 4 ∧ (∀ i, i < pn → cur[i * 4]? = some (.int .u8 0) ∧ cur[i * 4 + 1]? = some (.int .i32 0)) ∧
    (∀ i, i < k → cur[i * 4 + 2]? = some (.int .i32 ((F (i + 1) : Int) - F i)) ∧ cur[i * 4 + 3]? = some (.int .i64 (F i : Nat))) ∧ (h = true → cur[k * 4 + 3]? = some (.int .i64 (F k : Nat)))
theorem PS.of_block {w w' : World} {gp pn k : Nat} {h : Bool} {F : Nat → Nat} (p : PS w gp pn k h F) (e : w'.heap[gp]? = w.heap[gp]?) : PS w' gp pn k h F := by
  obtain ⟨cur, h1, r⟩ := p
  exact ⟨cur, e.trans h1, r⟩
theorem PS.store3 {w : World} {gp pn k : Nat} {h : Bool} {F : Nat → Nat} (p : PS w gp pn k h F) (hk : k < pn) : PS (w.setCell ⟨gp, k * 4 + 3, none⟩ (.int .i64 (F k : Nat))) gp pn k true F := by
  obtain ⟨cur, h1, hs, h2, h3, _⟩ := p
  refine ⟨cur.setIfInBounds (k * 4 + 3) (.int .i64 (F k : Nat)), by simp [World.setCell, Array.getElem?_modify, h1], by simpa using hs, fun i hi => ?_, fun i hi => ?_, fun _ => ?_⟩
  · rw [Array.getElem?_setIfInBounds, Array.getElem?_setIfInBounds, if_neg (by omega), if_neg (by omega)]; exact h2 i hi
  · rw [Array.getElem?_setIfInBounds, Array.getElem?_setIfInBounds, if_neg (by omega), if_neg (by omega)]; exact h3 i hi
  · rw [Array.getElem?_setIfInBounds, if_pos rfl, if_pos (by omega)]
theorem PS.store2 {w : World} {gp pn k : Nat} {F : Nat → Nat} (p : PS w gp pn k true F) (hk : k < pn) : PS (w.setCell ⟨gp, k * 4 + 2, none⟩ (.int .i32 ((F (k + 1) : Int) - F k))) gp pn (k + 1) false F := by
  obtain ⟨cur, h1, hs, h2, h3, h4⟩ := p
  refine ⟨cur.setIfInBounds (k * 4 + 2) (.int .i32 ((F (k + 1) : Int) - F k)), by simp [World.setCell, Array.getElem?_modify, h1], by simpa using hs, fun i hi => ?_, fun i hi => ?_, fun h => by cases h⟩
  · rw [Array.getElem?_setIfInBounds, Array.getElem?_setIfInBounds, if_neg (by omega), if_neg (by omega)]; exact h2 i hi
  · by_cases e : i = k
    · subst e
      rw [Array.getElem?_setIfInBounds, Array.getElem?_setIfInBounds, if_pos rfl, if_pos (by omega), if_neg (by omega)]
      exact ⟨rfl, h4 rfl⟩
    · rw [Array.getElem?_setIfInBounds, Array.getElem?_setIfInBounds, if_neg (by omega), if_neg (by omega)]; exact h3 i (by omega)
theorem PS.cells {w : World} {gp pn k : Nat} {h : Bool} {F : Nat → Nat} (p : PS w gp pn k h F) (hk : k < pn) : (∃ u, w.cell? ⟨gp, k * 4 + 2, none⟩ = some u) ∧ (∃ u, w.cell? ⟨gp, k * 4 + 3, none⟩ = some u) ∧ w.frozen? ⟨gp, k * 4 + 2, none⟩ = false ∧ w.frozen? ⟨gp, k * 4 + 3, none⟩ = false ∧ (h = true → w.cell? ⟨gp, k * 4 + 3, none⟩ = some (.int .i64 (F k : Nat))) := by
  obtain ⟨cur, h1, hs, h2, h3, h4⟩ := p
  have e : ∀ i, w.cell? ⟨gp, i, none⟩ = cur[i]? := fun i => cell_of_row w gp i cur 29 (0, 0) h1
  refine ⟨⟨cur[k * 4 + 2]'(by omega), ?_⟩, ⟨cur[k * 4 + 3]'(by omega), ?_⟩, by simp [World.frozen?, h1], by simp [World.frozen?, h1], fun hh => by rw [e]; exact h4 hh⟩
  · rw [e]; exact Array.getElem?_eq_getElem _
  · rw [e]; exact Array.getElem?_eq_getElem _
theorem PS.pa {w : World} {gp pn : Nat} {h : Bool} {F : Nat → Nat} (p : PS w gp pn pn h F) (hm : ∀ i, i < pn → F i ≤ F (i + 1)) : PA w (some ⟨gp, 0, none⟩) pn (fun i => ((F (i + 1) - F i : Nat) : Int)) (fun i => ((F i : Nat) : Int)) := by
  obtain ⟨cur, h1, hs, h2, h3, _⟩ := p
  have e : ∀ i, w.cell? ⟨gp, i, none⟩ = cur[i]? := fun i => cell_of_row w gp i cur 29 (0, 0) h1
  refine .inr ⟨gp, 0, rfl, fun j hj => ?_⟩
  rw [e, e, e, e, Nat.zero_add]
  refine ⟨(h2 j hj).1, (h2 j hj).2, ?_, (h3 j hj).2⟩
  rw [(h3 j hj).1]
  have := hm j hj
  have e2 : ((F (j + 1) : Int) - F j) = ((F (j + 1) - F j : Nat) : Int) := by omega
  rw [e2]
theorem made_ps {w w1 : World} {pn : Nat} {F : Nat → Nat} (h : w1.ownsRow w.heap.size 29 4 (.slice (some ⟨w.heap.size, 0, none⟩) pn pn) pn (madeCells #[.int .u8 0, .int .i32 0, .int .i32 0, .int .i64 0] (pn * 4)).toList) : PS w1 w.heap.size pn 0 false F ∧ w.heap.size < w1.heap.size := by
  have hlt := (h.lt w.heap.size rfl).2
  rcases h.2 with ⟨h, _⟩ | ⟨g, cap, cur, hv, _, hh, _, _, hs, htk⟩
  · simp at h
  · simp only [Value.slice.injEq, Option.some.injEq, Addr.mk.injEq, and_true, true_and] at hv
    obtain ⟨rfl, rfl⟩ := hv
    refine ⟨⟨cur, hh, hs, fun i hi => ?_, fun i hi => by omega, fun h => by cases h⟩, hlt⟩
    have key : ∀ j, j < pn * 4 → cur[j]? = some ((#[.int .u8 0, .int .i32 0, .int .i32 0, .int .i64 0] : Array Value)[j % 4]!) := by
      intro j hj
      have h2 : (cur.toList.take (pn * 4))[j]? = cur[j]? := by rw [List.getElem?_take, if_pos hj]; simp
      rw [← h2, htk]
      simp [madeCells, hj]
    refine ⟨?_, ?_⟩
    · rw [key _ (by omega), show i * 4 % 4 = 0 by omega]; rfl
    · rw [key _ (by omega), show (i * 4 + 1) % 4 = 1 by omega]; rfl
theorem tl_step (xs : List Nat) (f : Nat → Value) (g : Nat → Nat) (q : Nat) : (xs ++ (List.range (q + 1)).map g).map f = (xs ++ (List.range q).map g).map f ++ [f (g q)] := by
  rw [List.range_succ]; simp
theorem own_tl {w : World} {base n : Nat} {L : Nat → Nat} {V : Nat → Nat → Int} {v : Value} {k : Nat} (h : w.ownsRow base 21 1 v (Fs n L k) ((tl n L V k).map fun t => .int .i32 ((t : Nat) : Int))) :
    w.ownsRow base 21 1 v (Fs n L k) ((List.range (Fs n L k)).map fun j => .int .i32 (((tl n L V k).getD j 0 : Nat) : Int)) := by
  have e := Go.Deep.map_by_index (tl n L V k) 0 (fun t => Value.int .i32 ((t : Nat) : Int))
  rw [tl_len] at e
  rw [← e]
  exact h
theorem ps_round {w W : World} {gp pn k m : Nat} {F : Nat → Nat} {v : Value} {xs : List Value} (hps : PS W gp pn k true F) (hk : k < pn) (hown : W.ownsRow (gp + 1) 21 1 v m xs) (hb : Below gp w W) (hsz : gp < W.heap.size) (x : Int) (hx : x = (F (k + 1) : Int) - F k) :
    (W.setCell ⟨gp, k * 4 + 2, none⟩ (.int .i32 x)).ownsRow (gp + 1) 21 1 v m xs ∧ PS (W.setCell ⟨gp, k * 4 + 2, none⟩ (.int .i32 x)) gp pn (k + 1) false F ∧ Below gp w (W.setCell ⟨gp, k * 4 + 2, none⟩ (.int .i32 x)) ∧ gp < (W.setCell ⟨gp, k * 4 + 2, none⟩ (.int .i32 x)).heap.size := by
  subst hx
  exact ⟨ownsRow_setCell_below hown (a := ⟨gp, k * 4 + 2, none⟩) (by show gp < gp + 1; omega) _, hps.store2 hk, hb.setCell (p := ⟨gp, k * 4 + 2, none⟩) (Nat.le_refl gp) _, by simpa [World.setCell] using hsz⟩
theorem own_shape {w : World} {base e size n : Nat} {v : Value} {xs : List Value} (h : w.ownsRow base e size v n xs) : ∃ a c, v = .slice a n c := by
  rcases h.2 with ⟨hv, h0⟩ | ⟨g, cap, cur, hv, _⟩
  · exact ⟨none, 0, by rw [hv, h0]⟩
  · exact ⟨_, _, hv⟩

/-- The processes that came in: a row of slices of numbers. -/
def QA (w : World) (a : Option Addr) (n : Nat) (A : Nat → Option Addr) (L C : Nat → Nat) (V : Nat → Nat → Int) : Prop :=
  n = 0 ∨ ∃ b off, a = some ⟨b, off, none⟩ ∧ ∀ i, i < n → w.cell? ⟨b, off + i, none⟩ = some (.slice (A i) (L i) (C i)) ∧ CA w (A i) (L i) fun j => .int .i32 (V i j)
theorem QA.kept {w w' : World} {a : Option Addr} {n : Nat} {A : Nat → Option Addr} {L C : Nat → Nat} {V : Nat → Nat → Int} (h : QA w a n A L C V) (hb : Below w.heap.size w w') : QA w' a n A L C V := by
  rcases h with h | ⟨b, off, rfl, hc⟩
  · exact .inl h
  · exact .inr ⟨b, off, rfl, fun i hi => ⟨(hb.cell (p := ⟨b, _, none⟩) (World.block_lt_of_cell? w _ (hc i hi).1)).trans (hc i hi).1, (hc i hi).2.kept hb⟩⟩

set_option maxRecDepth 1000000 in
set_option maxHeartbeats 4000000 in
theorem tail6 (w0 w : World) {c3 c4 c5 c6 c7 c8 c9 c12 c13 c14 c15 c16 c17 c18 c19 c20 c21 c22 c23 c24 c25 c26 c27 c28 c29 c30 c31 c32 c33 c34 c35 c36 c37 c38 c39 c40 c41 c42 c43 c44 c45 c46 c47 c48 c49 c50 c51 c52 c53 c54 c55 c56 c57 c58 c59 c60 c61 c62 c63 c64 c65 c66 c67 c68 c69 c70 c71 c72 c73 c74 c75 c76 c77 c78 c79 c80 c81 c82 c83 c84 c85 c86 c87 c88 c89 c90 c91 c92 c93 c94 c95 c96 c97 c98 c99 c100 c101 c102 c103 c104 c105 c106 c107 c108 c109 c110 c111 c112 c113 c114 c115 c116 c117 c118 c119 c120 c121 c122 c123 c124 c125 c126 c127 c128 c129 c130 c131 c132 c133 c134 c135 c136 c137 c138 c139 c140 c141 c142 c143 c144 c145 c146 c147 c148 c149 c150 c151 c152 c153 c154 c155 c156 c157 c158 c159 c160 c161 c162 c163 c164 c165 c166 c167 c168 c169 c170 c171 c172 c173 c174 c175 c176 c177 c178 c179 c180 c181 c182 c183 c184 c185 c186 c187 c188 c189 c190 c191 c192 c193 : Value} {pn qc rl rc n cc kc : Nat} {qa ra ca ka : Option Addr} {A : Nat → Option Addr} {L C : Nat → Nat} {V : Nat → Nat → Int} {B : Nat → Bool} {R : Nat → Int}
    (hQ : QA w qa pn A L C V) (hV : ∀ i j, i < pn → j < L i → -2147483648 ≤ V i j ∧ V i j ≤ 2147483647) (hF : Fs 1 L pn ≤ 4096) (hpn : pn ≤ 4096) (hrl : rl ≤ 4096) (hnn : n ≤ 4096)
    (hR : CA w ra rl fun j => .int .i32 (R j)) (hRb : ∀ j, j < rl → -2147483648 ≤ R j ∧ R j ≤ 2147483647) (hB : CA w ca n fun j => .bool (B j)) (hK : CA w ka n fun j => .bool (B j)) (hcn : ca = none → n = 0 ∧ cc = 0) (hBel : Below w0.heap.size w0 w) :
    Code.wp Yba.prog (sndN 6 (Yba.f3.body.getD .skip)) (bodyPost Yba.prog Yba.f3 (fun e w' => e = .returned (.bool true) ∧ Below w0.heap.size w0 w')) ⟨#[.slice ca n cc, .slice qa pn qc, .slice ra rl rc, c3, c4, c5, c6, c7, c8, c9, .int .i64 (n : Nat), .slice ka n kc, c12, c13, c14, c15, c16, c17, c18, c19, c20, c21, c22, c23, c24, c25, c26, c27, c28, c29, c30, c31, c32, c33, c34, c35, c36, c37, c38, c39, c40, c41, c42, c43, c44, c45, c46, c47, c48, c49, c50, c51, c52, c53, c54, c55, c56, c57, c58, c59, c60, c61, c62, c63, c64, c65, c66, c67, c68, c69, c70, c71, c72, c73, c74, c75, c76, c77, c78, c79, c80, c81, c82, c83, c84, c85, c86, c87, c88, c89, c90, c91, c92, c93, c94, c95, c96, c97, c98, c99, c100, c101, c102, c103, c104, c105, c106, c107, c108, c109, c110, c111, c112, c113, c114, c115, c116, c117, c118, c119, c120, c121, c122, c123, c124, c125, c126, c127, c128, c129, c130, c131, c132, c133, c134, c135, c136, c137, c138, c139, c140, c141, c142, c143, c144, c145, c146, c147, c148, c149, c150, c151, c152, c153, c154, c155, c156, c157, c158, c159, c160, c161, c162, c163, c164, c165, c166, c167, c168, c169, c170, c171, c172, c173, c174, c175, c176, c177, c178, c179, c180, c181, c182, c183, c184, c185, c186, c187, c188, c189, c190, c191, c192, c193], []⟩ w := by
  show Code.wp _ (Code.seq _ _) _ _ _
  have hFn : ∀ i, i ≤ pn → Fs n L i ≤ 4096 := fun i hi => by
    refine Nat.le_trans (Nat.le_trans ?_ (Fs_mono 1 L hi)) hF
    clear hi
    induction i with
    | zero => exact Nat.le_refl _
    | succ i ih => simp only [Fs]; split <;> simp <;> omega
  have HQ := hide' hQ
  have HV := hide' hV
  have HFn := hide' hFn
  have HR := hide' hR
  have HRb := hide' hRb
  have HB := hide' hB
  have HK := hide' hK
  have HCN := hide' hcn
  have HL := hide' hBel
  clear hQ hV hFn hR hRb hB hcn hBel hK hF
  obtain ⟨i0, hi, hz0, hz1, hz2⟩ := info_parts Yba.info29
  obtain ⟨j0, gi, gz0, gz1, gz2⟩ := info_parts Yba.info21
  refine seq_hid fun K1 HK1 => ?_
  go_wp2_with fail
  refine HK1.out _ _ ?_
  clear HK1
  refine seq_hid fun K2 HK2 => ?_
  go_wp2_with (at_make; refine wpList_make_full _ rfl (.tmp 63) (.tmp 63) 26 rfl w.heap.size 29 i0 _ 4 Yba.underlying26 hi hz0 hz1 .i64 .i64 pn pn pn rfl rfl rfl rfl (by rw [hz2]; omega) (by simp only [maxLen]; omega) (Nat.le_refl _) ?_; intro w1 hown hgrow; have HPS := hide' (made_ps (F := Fs n L) hown); have HB1 := hide' ((Below.refl w.heap.size w).grown hgrow (Nat.le_refl _) (by simp)); clear hown hgrow)
  refine HK2.out _ _ ?_
  clear HK2
  refine seq_hid fun K3 HK3 => ?_
  obtain ⟨gp, hgp⟩ : ∃ gp, gp = w.heap.size := ⟨_, rfl⟩
  rw [← hgp] at HPS ⊢
  have HGP := hide' hgp
  clear hgp
  go_wp2_with fail
  go_loopw [12, 67] (fun v i wr => ∃ (k : Nat) (a : Option Addr) (c : Nat), k ≤ pn ∧ i = .int .i64 k ∧ v = .slice a (Fs n L k) c ∧ wr.ownsRow (gp + 1) 21 1 v (Fs n L k) ((tl n L V k).map fun t => .int .i32 ((t : Nat) : Int)) ∧ PS wr gp pn k false (Fs n L) ∧ Below gp w wr ∧ gp < wr.heap.size) (fun _ i _ => pn - (intOf i).toNat)
  case atStart => exact ⟨0, none, 0, Nat.zero_le _, rfl, rfl, World.ownsRow_nil _ _ _ _, HPS.out.1, HGP.out ▸ HB1.out, HPS.out.2⟩
  case round =>
    obtain ⟨k, a, c, hk, rfl, rfl, hown, hps, hbel, hsz⟩ := hrel
    have hFk := HFn.out k hk
    by_cases hlt : k < pn
    · obtain ⟨qb, qo, rfl, hc, hrow⟩ : ∃ b off, qa = some ⟨b, off, none⟩ ∧ wr.cell? ⟨b, off + k, none⟩ = some (.slice (A k) (L k) (C k)) ∧ CA w (A k) (L k) (fun j => .int .i32 (V k j)) := by
        rcases HQ.out with h | ⟨b, off, hx, h⟩
        · omega
        · have hc := (h k hlt).1
          exact ⟨b, off, hx, (hbel.cell (p := ⟨b, _, none⟩) (by have := HGP.out; rw [this]; exact World.block_lt_of_cell? w _ hc)).trans hc, (h k hlt).2⟩
      have hFk1 := HFn.out (k + 1) (by omega)
      obtain ⟨-, ⟨u3, cell3⟩, -, z3, -⟩ := hps.cells hlt
      have HPS1 := hide' (hps.store3 hlt)
      have HO := hide' (ownsRow_setCell_below hown (a := ⟨gp, k * 4 + 3, none⟩) (by show gp < gp + 1; omega) (.int .i64 (Fs n L k : Nat)))
      have HB2 := hide' (hbel.setCell (p := ⟨gp, k * 4 + 3, none⟩) (Nat.le_refl gp) (.int .i64 (Fs n L k : Nat)))
      have HROW := hide' hrow
      clear hown hps hbel hrow
      have hlt' : (k : Int) < (pn : Int) := by omega
      obtain ⟨⟨u2, y2⟩, -, z2, -, y3⟩ := HPS1.out.cells hlt
      have y3' := y3 rfl
      clear y3
      obtain ⟨fk, hfk⟩ : ∃ fk, fk = Fs n L k := ⟨_, rfl⟩
      rw [← hfk] at hFk y3' y2 z2 HPS1 HO HB2 ⊢
      have HFK := hide' hfk
      clear hfk
      by_cases hn0 : n = 0
      · have hF1 : Hid (Fs n L (k + 1) = fk) := by unfold Hid; rw [HFK.out]; simp [Fs, hn0]
        have hnn0 : ¬ 0 < n := by omega
        have HTL : Hid (tl n L V (k + 1) = tl n L V k) := by unfold Hid; simp [tl, hn0]
        have R := hide' (ps_round HPS1.out hlt HO.out HB2.out (by simpa [World.setCell] using hsz) 0 (by rw [hF1.out, HFK.out]; omega))
        go_wp2_with fail
        go_roundw
        case rel =>
          obtain ⟨r1, r2, r3, r4⟩ := R.out
          refine ⟨k + 1, a, c, by omega, by go_num, by rw [hF1.out], ?_, r2, r3, r4⟩
          rw [hF1.out, HTL.out]
          exact r1
        case measure => simp [intOf]; omega
      · have hnpos : 0 < n := by omega
        have hF1 : Hid (Fs n L (k + 1) = fk + L k) := by unfold Hid; rw [HFK.out]; simp [Fs, hn0]
        have HTL : Hid (tl n L V (k + 1) = tl n L V k ++ (List.range (L k)).map fun j => tmN n (V k j)) := by unfold Hid; simp [tl, hn0]
        have hLk : fk + L k ≤ 4096 := by have := hF1.out; omega
        have HVk : Hid (∀ j, j < L k → -2147483648 ≤ V k j ∧ V k j ≤ 2147483647) := fun j hj => HV.out k j hlt hj
        obtain ⟨lk, hlk⟩ : ∃ lk, lk = L k := ⟨_, rfl⟩
        obtain ⟨ak, hak⟩ : ∃ ak, ak = A k := ⟨_, rfl⟩
        obtain ⟨ck, hck⟩ : ∃ ck, ck = C k := ⟨_, rfl⟩
        rw [← hlk, ← hak, ← hck] at hc
        rw [← hlk] at hF1 HTL hLk HVk
        rw [← hlk, ← hak] at HROW
        clear hlk hak hck
        go_wp2_with fail
        obtain ⟨wo, hwo⟩ : ∃ wo, wo = wr.setCell ⟨gp, k * 4 + 3, none⟩ (.int .i64 (fk : Nat)) := ⟨_, rfl⟩
        rw [← hwo] at HO HB2 HPS1 ⊢
        have hwsz : gp < wo.heap.size := by rw [hwo]; simpa [World.setCell] using hsz
        clear hwo y3' y2 z2 cell3 z3 hc
        go_loopw [12, 82] (fun v i wi => ∃ (q : Nat) (a : Option Addr) (c : Nat), q ≤ lk ∧ i = .int .i64 q ∧ v = .slice a (fk + q) c ∧ wi.ownsRow (gp + 1) 21 1 v (fk + q) ((tl n L V k ++ (List.range q).map fun j => tmN n (V k j)).map fun t => .int .i32 ((t : Nat) : Int)) ∧ PS wi gp pn k true (Fs n L) ∧ Below gp w wi ∧ gp < wi.heap.size) (fun _ i _ => lk - (intOf i).toNat)
        case atStart => exact ⟨0, a, c, Nat.zero_le _, rfl, rfl, by simpa using HO.out, HPS1.out, HB2.out, hwsz⟩
        case round =>
          obtain ⟨q, a', c', hq, rfl, rfl, hown, hps, hbel, hsz'⟩ := hrel
          by_cases hqt : q < lk
          · obtain ⟨rb, ro, rfl, hv⟩ : ∃ b off, ak = some ⟨b, off, none⟩ ∧ wr.cell? ⟨b, off + q, none⟩ = some (.int .i32 (V k q)) := by
              rcases HROW.out with h | ⟨b, off, hx, h⟩
              · omega
              · have hc := h q hqt
                exact ⟨b, off, hx, (hbel.cell (p := ⟨b, _, none⟩) (by have := HGP.out; rw [this]; exact World.block_lt_of_cell? w _ hc)).trans hc⟩
            obtain ⟨zb1, zb2⟩ := HVk.out q hqt
            have HO2 := hide' hown
            have HPS2 := hide' hps
            have HB3 := hide' hbel
            clear hown hps hbel
            generalize hRk : V k q = z at hv zb1 zb2
            have HRk := hide' hRk
            clear hRk
            have hqt' : (q : Int) < (lk : Int) := by omega
            obtain ⟨t, ht⟩ : ∃ t, t = tmN n z := ⟨_, rfl⟩
            have hr : z % 4294967296 % (n : Int) = (t : Int) := by rw [ht]; exact (tmN_int n z).symm
            have htn : t < n := by rw [ht]; exact tmN_lt n z hn0
            have HTT := hide' ht
            clear ht
            have HNW : Hid (∀ j u, ([.int .i32 (t : Nat)] : List Value)[j]? = some u → (wr.alloc (.cells #[.int .i32 (t : Nat)] 21)).cell? ((⟨wr.heap.size, 0, none⟩ : Addr).add j) = some u) := by
              intro j u hj
              rw [add_plain, World.cell?_alloc_at _ _ _ _ rfl]
              simpa using hj
            go_wp2_with (at_builtin; refine wpList_append_own _ rfl (.tmp 86) (.tmp 93) 24 rfl (gp + 1) 21 j0 _ 1 4 Yba.underlying24 gi gz0 gz1 gz2 rfl (by decide) _ (fk + q) _ rfl (HO2.out.alloc _) ⟨wr.heap.size, 0, none⟩ 1 1 [.int .i32 (t : Nat)] rfl rfl HNW.out (by simp [Value.oneCell']) (by simp only [maxLen]; omega) (by omega) (by simp; omega) ?_; intro v' w' hown hgrow _; have HO3 := hide' hown; have HG2 := hide' hgrow; clear hown hgrow)
            go_roundw
            case rel =>
              have hg := HG2.out
              have hne : ∀ j, Value.ownBlock (.slice a' (fk + q) c') = some j → gp + 1 ≤ j := fun j hj => (HO2.out.lt j hj).1
              obtain ⟨a2, c2, hv2⟩ := own_shape HO3.out
              refine ⟨q + 1, a2, c2, by omega, by go_num, by rw [hv2, Nat.add_assoc], ?_, ?_, ?_, ?_⟩
              · have h := HO3.out
                rw [HTT.out, ← HRk.out] at h
                rw [tl_step]
                exact h
              · exact HPS2.out.of_block ((hg.block gp (by simp; omega) (fun e => by have := hne gp e.symm; omega)).trans (Below.heap_alloc _ _ _ (by omega)))
              · exact (HB3.out.alloc (by omega) _).grown hg (by simp; omega) (fun j hj => by have := hne j hj; omega)
              · have := hg.size
                simp at this
                omega
            case measure => simp [intOf]; omega
          · obtain rfl : q = lk := by omega
            obtain ⟨⟨u2, y2⟩, -, z2, -, y3⟩ := hps.cells hlt
            have y3' := y3 rfl
            rw [← HFK.out] at y3'
            have R := hide' (ps_round hps hlt hown hbel hsz' ((fk : Int) + q - fk) (by rw [hF1.out, ← HFK.out]; simp))
            clear y3 hown hps hbel
            go_wp2_with fail
            go_roundw
            case rel =>
              obtain ⟨r1, r2, r3, r4⟩ := R.out
              refine ⟨k + 1, a', c', by omega, by go_num, by rw [hF1.out], ?_, r2, r3, r4⟩
              rw [hF1.out, HTL.out]
              exact r1
            case measure => simp [intOf]; omega
    · obtain rfl : k = pn := by omega
      obtain ⟨a2, c2, hv2, hc2, hnil2, hsp2, how⟩ := own_ow (own_tl hown)
      simp only [Value.slice.injEq, true_and] at hv2
      obtain ⟨rfl, rfl⟩ := hv2
      have HO := hide' how.ca
      have HPA := hide' (hps.pa (fun i hi => Fs_mono n L (Nat.le_succ i)))
      have HB3 := hide' hbel
      have HNL := hide' hnil2
      have HSP := hide' hsp2
      clear how hown hps hbel hnil2 hsp2
      obtain ⟨fk, hfk⟩ : ∃ fk, fk = Fs n L k := ⟨_, rfl⟩
      rw [← hfk] at hFk HO HNL hc2 ⊢
      have HFK := hide' hfk
      clear hfk
      go_wp2_with fail
      have hgw : gp = w.heap.size := HGP.out
      have hb : Below w.heap.size w wr := hgw ▸ HB3.out
      exact HK3.out _ _ (tail9 w0 wr (Fn := Fs n L) (Tn := fun j => (tl n L V k).getD j 0) HPA.out rfl (fun i _ => Fs_mono n L (Nat.le_succ i)) HFK.out.symm (fun i hi => by rw [HFK.out]; exact Fs_mono n L hi) HNL.out HSP.out hc2 hFk hpn hrl hnn (fun h => by simp at h) HO.out
        (fun j hj => tl_lt n L V k _ (by have hl := tl_len n L V k; rw [← HFK.out] at hl; simp [List.getD, hl, hj])) (HR.out.kept hb) HRb.out (HB.out.kept hb) (HK.out.kept hb) HCN.out (HL.out.trans (hb.mono HL.out.size)))
end Go.Proofs.Ybulkdvxu
