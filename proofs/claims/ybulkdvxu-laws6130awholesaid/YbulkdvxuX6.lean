import Derived.Test.YbulkdvxuX5
namespace Go.Proofs.Ybulkdvxu
open Go.RowKit

def sndN : Nat → Code → Code
  | 0, c => c
  | n + 1, .seq _ b => sndN n b
  | _ + 1, c => c
theorem seq_hid {P : Program} {x y : Code} {Q : Exit → Act → World → Prop} {a : Act} {w : World} (h : ∀ K : Act → World → Prop, Hid (∀ a w, y.wp P Q a w → K a w) → x.wp P (Exit.then K Q) a w) : (Code.seq x y).wp P Q a w :=
  wp_seq_k fun K hK => h K hK

/-- The cells of n processes. -/
def pcells (C F : Nat → Int) : Nat → List Value
  | 0 => []
  | k + 1 => pcells C F k ++ [.int .u8 0, .int .i32 0, .int .i32 (C k), .int .i64 (F k)]
theorem pcells_len (C F : Nat → Int) (k : Nat) : (pcells C F k).length = k * 4 := by
  induction k with
  | zero => rfl
  | succ k ih => simp [pcells, ih]; omega
theorem pcells_get (C F : Nat → Int) (n k i : Nat) (hk : k < n) (hi : i < 4) : (pcells C F n)[k * 4 + i]? = ([.int .u8 0, .int .i32 0, .int .i32 (C k), .int .i64 (F k)] : List Value)[i]? := by
  induction n with
  | zero => omega
  | succ n ih =>
    by_cases h : k < n
    · rw [pcells, List.getElem?_append_left (by rw [pcells_len]; omega)]; exact ih h
    · obtain rfl : k = n := by omega
      rw [pcells, List.getElem?_append_right (by rw [pcells_len]; omega), pcells_len]
      congr 1; omega
theorem pcells_one (C F : Nat → Int) (n : Nat) : ∀ u ∈ pcells C F n, u.oneCell' = true := by
  induction n with
  | zero => simp [pcells]
  | succ n ih =>
    intro u hu
    rw [pcells, List.mem_append] at hu
    rcases hu with hu | hu
    · exact ih u hu
    · simp at hu
      rcases hu with rfl | rfl | rfl | rfl <;> rfl
theorem pa_cells {w : World} {av : Addr} {n : Nat} {C F : Nat → Int} (h : PA w (some av) n C F) : ∀ j u, (pcells C F n)[j]? = some u → w.cell? (av.add j) = some u := by
  intro j u hj
  have hlt : j < n * 4 := by
    have := (List.getElem?_eq_some_iff.1 hj).1
    rwa [pcells_len] at this
  rcases h with h | ⟨b, off, hx, h⟩
  · omega
  simp only [Option.some.injEq] at hx
  subst hx
  have hj' : j = j / 4 * 4 + j % 4 := by omega
  have hg := pcells_get C F n (j / 4) (j % 4) (by omega) (by omega)
  rw [← hj', hj] at hg
  obtain ⟨h0, h1, h2, h3⟩ := h (j / 4) (by omega)
  rw [add_plain]
  have h4 : j % 4 = 0 ∨ j % 4 = 1 ∨ j % 4 = 2 ∨ j % 4 = 3 := by omega
  rcases h4 with e | e | e | e <;> rw [e] at hg <;> simp only [List.getElem?_cons_zero, List.getElem?_cons_succ] at hg <;> rw [hg]
  · rw [show off + j = off + j / 4 * 4 by omega]; exact h0
  · rw [show off + j = off + j / 4 * 4 + 1 by omega]; exact h1
  · rw [show off + j = off + j / 4 * 4 + 2 by omega]; exact h2
  · rw [show off + j = off + j / 4 * 4 + 3 by omega]; exact h3
theorem own_pa {w : World} {base n : Nat} {v : Value} {C F : Nat → Int} (h : w.ownsRow base 29 4 v n (pcells C F n)) : ∃ a c, v = .slice a n c ∧ PA w a n C F := by
  rcases h.2 with ⟨hv, h0⟩ | ⟨g, cap, cur, hv, _, hh, _, _, _, htk⟩
  · exact ⟨none, 0, by rw [hv, h0], .inl h0⟩
  · have key : ∀ j i, j < n → i < 4 → w.cell? ⟨g, 0 + j * 4 + i, none⟩ = ([.int .u8 0, .int .i32 0, .int .i32 (C j), .int .i64 (F j)] : List Value)[i]? := by
      intro j i hj hi
      rw [cell_of_row w g _ cur 29 (0, 0) hh, ← pcells_get C F n j i hj hi, ← htk, List.getElem?_take, if_pos (by omega), Nat.zero_add]
      simp
    exact ⟨some ⟨g, 0, none⟩, cap, hv, .inr ⟨g, 0, rfl, fun j hj => ⟨key j 0 hj (by omega), key j 1 hj (by omega), key j 2 hj (by omega), key j 3 hj (by omega)⟩⟩⟩
theorem cloneP {a : Option Addr} {n : Nat} {C F : Nat → Int} {w : World} (c : Nat) (hn : n ≤ 1048576) (hnil : a = none → n = 0 ∧ c = 0) (h : PA w a n C F) :
    Calls Yba.prog 6 #[.slice a n c] w fun e w' => ∃ a' c', e = .returned (.slice a' n c') ∧ PA w' a' n C F ∧ Below w.heap.size w w' := by
  cases a with
  | none =>
    obtain ⟨rfl, rfl⟩ := hnil rfl
    exact (cloneP_nil w).mono fun e w' ⟨h1, h2⟩ => ⟨none, 0, h1, .inl rfl, h2 ▸ Below.refl _ _⟩
  | some av =>
    refine (cloneP_some av n c (pcells C F n) w hn (pcells_len C F n) (pa_cells h) (pcells_one C F n)).mono ?_
    rintro e w' ⟨v, rfl, hown, hb⟩
    obtain ⟨a', c', rfl, how⟩ := own_pa hown
    exact ⟨a', c', rfl, how, hb⟩

set_option maxRecDepth 1000000 in
set_option maxHeartbeats 4000000 in
theorem tail13 (w0 w : World) {c1 c2 c3 c4 c5 c6 c7 c8 c9 c10 c14 c15 c16 c17 c19 c20 c22 c23 c24 c25 c26 c27 c28 c29 c30 c31 c32 c33 c34 c35 c36 c37 c38 c39 c40 c41 c42 c43 c44 c45 c46 c47 c48 c49 c50 c51 c52 c53 c54 c55 c56 c57 c58 c59 c60 c61 c62 c63 c64 c65 c66 c67 c68 c69 c70 c71 c72 c73 c74 c75 c76 c77 c78 c79 c80 c81 c82 c83 c84 c85 c86 c87 c88 c89 c90 c91 c92 c93 c94 c95 c96 c97 c98 c99 c100 c101 c102 c103 c104 c105 c106 c107 c108 c109 c110 c111 c112 c113 c114 c115 c116 c117 c118 c119 c120 c121 c122 c123 c124 c125 c126 c127 c128 c129 c130 c131 c132 c133 c134 c135 c136 c137 c138 c139 c140 c141 c142 c143 c144 c145 c146 c147 c148 c149 c150 c151 c152 c153 c154 c155 c156 c157 c158 c159 c160 c161 c162 c163 c164 c165 c166 c167 c168 c169 c170 c171 c172 c173 c174 c175 c176 c177 c178 c179 c180 c181 c182 c183 c184 c185 c186 c187 c188 c189 c190 c191 c192 c193 : Value} {pn pc tn tc rn rc n cc kc : Nat} {pa ta ra ca ka : Option Addr} {Fn Tn Rn : Nat → Nat} {B : Nat → Bool}
    (hP : PA w pa pn (fun i => ((Fn (i + 1) - Fn i : Nat) : Int)) (fun i => ((Fn i : Nat) : Int))) (hF0 : Fn 0 = 0) (hFs : ∀ i, i < pn → Fn i ≤ Fn (i + 1)) (hFt : Fn pn = tn) (hFb : ∀ i, i ≤ pn → Fn i ≤ tn)
    (hn : ta = none → tn = 0 ∧ tc = 0) (hs : ∀ x, ta = some x → x.spot = none) (h2 : tn ≤ tc) (h4 : tn ≤ 4096) (hpn : pn ≤ 4096) (hrn : rn ≤ 4096) (hnn : n ≤ 4096) (hpnil : pa = none → pn = 0 ∧ pc = 0) (hrnil : ra = none → rn = 0 ∧ rc = 0)
    (hT : CA w ta tn fun j => .int .i32 ((Tn j : Nat) : Int)) (hTn : ∀ j, j < tn → Tn j < n) (hR : CA w ra rn fun j => .int .i32 ((Rn j : Nat) : Int)) (hRn : ∀ j, j < rn → Rn j < n) (hB : CA w ca n fun j => .bool (B j)) (hK : CA w ka n fun j => .bool (B j)) (hcn : ca = none → n = 0 ∧ cc = 0) (hBel : Below w0.heap.size w0 w) :
    Code.wp Yba.prog (sndN 13 (Yba.f3.body.getD .skip)) (bodyPost Yba.prog Yba.f3 (fun e w' => e = .returned (.bool true) ∧ Below w0.heap.size w0 w')) ⟨#[.slice ca n cc, c1, c2, c3, c4, c5, c6, c7, c8, c9, c10, .slice ka n kc, .slice ta tn tc, .slice pa pn pc, c14, c15, c16, c17, .slice ra rn rc, c19, c20, .int .i64 (cnt (fun j => B j || among (fun j => ((Tn j : Nat) : Int)) tn j || among (fun j => ((Rn j : Nat) : Int)) rn j) n : Nat), c22, c23, c24, c25, c26, c27, c28, c29, c30, c31, c32, c33, c34, c35, c36, c37, c38, c39, c40, c41, c42, c43, c44, c45, c46, c47, c48, c49, c50, c51, c52, c53, c54, c55, c56, c57, c58, c59, c60, c61, c62, c63, c64, c65, c66, c67, c68, c69, c70, c71, c72, c73, c74, c75, c76, c77, c78, c79, c80, c81, c82, c83, c84, c85, c86, c87, c88, c89, c90, c91, c92, c93, c94, c95, c96, c97, c98, c99, c100, c101, c102, c103, c104, c105, c106, c107, c108, c109, c110, c111, c112, c113, c114, c115, c116, c117, c118, c119, c120, c121, c122, c123, c124, c125, c126, c127, c128, c129, c130, c131, c132, c133, c134, c135, c136, c137, c138, c139, c140, c141, c142, c143, c144, c145, c146, c147, c148, c149, c150, c151, c152, c153, c154, c155, c156, c157, c158, c159, c160, c161, c162, c163, c164, c165, c166, c167, c168, c169, c170, c171, c172, c173, c174, c175, c176, c177, c178, c179, c180, c181, c182, c183, c184, c185, c186, c187, c188, c189, c190, c191, c192, c193], []⟩ w := by
  show Code.wp _ (Code.seq _ _) _ _ _
  have HP := hide' hP
  have HF0 := hide' hF0
  have HFs := hide' hFs
  have HFt := hide' hFt
  have HFb := hide' hFb
  have HN := hide' hn
  have HS := hide' hs
  have HPN := hide' hpnil
  have HRN := hide' hrnil
  have HT := hide' hT
  have HTn := hide' hTn
  have HR := hide' hR
  have HRn := hide' hRn
  have HB := hide' hB
  have HK := hide' hK
  have HCN := hide' hcn
  have HL := hide' hBel
  clear hP hF0 hFs hFt hFb hn hs hT hTn hR hRn hB hcn hBel hpnil hrnil hK
  have hcl := cnt_le (fun j => B j || among (fun j => ((Tn j : Nat) : Int)) tn j || among (fun j => ((Rn j : Nat) : Int)) rn j) n
  obtain ⟨W, hWd⟩ : ∃ W, W = cnt (fun j => B j || among (fun j => ((Tn j : Nat) : Int)) tn j || among (fun j => ((Rn j : Nat) : Int)) rn j) n := ⟨_, rfl⟩
  rw [← hWd] at hcl ⊢
  have HW := hide' hWd
  clear hWd
  go_wp2_with fail
  refine (cloneP pc (by omega) HPN.out HP.out).mono ?_
  rintro e w1 ⟨pa', pc', rfl, hP1, hb1⟩
  have HP1 := hide' hP1
  have HB1 := hide' hb1
  clear hP1 hb1
  go_wp2_with fail
  refine (cloneI tc (by omega) HN.out (HT.out.kept HB1.out)).mono ?_
  rintro e w2 ⟨ta', tc', rfl, hT2, hb2⟩
  have HT2 := hide' hT2.ca
  have HP2 := hide' (HP1.out.kept hb2)
  have HB2 : Hid (Below w.heap.size w w2) := hide' (HB1.out.trans (hb2.mono HB1.out.size))
  clear hT2 hb2 HB1 HP1
  go_wp2_with fail
  refine (cloneI rc (by omega) HRN.out (HR.out.kept HB2.out)).mono ?_
  rintro e w3 ⟨ra', rc', rfl, hR3, hb3⟩
  have HR3 := hide' hR3.ca
  have HT3 := hide' (HT2.out.kept hb3)
  have HP3 := hide' (HP2.out.kept hb3)
  have HB3 : Hid (Below w.heap.size w w3) := hide' (HB2.out.trans (hb3.mono HB2.out.size))
  clear hR3 hb3 HB2 HP2 HT2
  go_wp2_with fail
  have HK4 := fun (o : Obj) => HB3.out.alloc HB3.out.size o
  refine (kept (sb := w3.heap.size) ((World.cell?_alloc_at _ _ _ _ rfl).trans rfl) ((World.cell?_alloc_at _ _ _ _ rfl).trans rfl) (HP.out.kept (HK4 _)) HF0.out HFs.out HFt.out HFb.out HN.out HS.out h2 h4 hpn hrn hnn (HT.out.kept (HK4 _)) HTn.out (HR.out.kept (HK4 _)) HRn.out (HB.out.kept (HK4 _)) HCN.out).mono ?_
  rintro e w5 ⟨he, hb5⟩
  rw [← HW.out] at he
  subst he
  have q9 := (hb5.cell (p := ⟨w3.heap.size, 9, none⟩) (by simp)).trans ((World.cell?_alloc_at _ _ _ _ rfl).trans rfl)
  have q10 := (hb5.cell (p := ⟨w3.heap.size, 10, none⟩) (by simp)).trans ((World.cell?_alloc_at _ _ _ _ rfl).trans rfl)
  have hA : Below w3.heap.size w3 w5 := ((Below.refl _ _).alloc (Nat.le_refl _) _).trans (hb5.mono (by simp))
  have HB5 : Hid (Below w.heap.size w w5) := hide' (HB3.out.trans (hA.mono HB3.out.size))
  have HP5 := hide' (HP3.out.kept hA)
  have HT5 := hide' (HT3.out.kept hA)
  have HR5 := hide' (HR3.out.kept hA)
  clear hb5 hA HK4 HB3 HP3 HT3 HR3
  go_wp2_with fail
  refine (eqB cc kc (by omega) (HB.out.kept HB5.out) (HK.out.kept HB5.out)).mono ?_
  rintro e w6 ⟨rfl, p1, rfl⟩
  go_wp2_with fail
  refine (eqP pc pc' (by omega) ((HP.out.kept HB5.out).drewN _) (HP5.out.drewN _)).mono ?_
  rintro e w6 ⟨rfl, p2, rfl⟩
  go_wp2_with fail
  refine (eqI tc tc' (by omega) ((HT.out.kept HB5.out).drewN _) (HT5.out.drewN _)).mono ?_
  rintro e w6 ⟨rfl, p3, rfl⟩
  go_wp2_with fail
  refine (eqI rc rc' (by omega) ((HR.out.kept HB5.out).drewN _) (HR5.out.drewN _)).mono ?_
  rintro e w6 ⟨rfl, p4, rfl⟩
  go_wp2_with fail
  go_ret
  exact ⟨rfl, below_drewN (HL.out.trans (HB5.out.mono HL.out.size)) _⟩
end Go.Proofs.Ybulkdvxu
