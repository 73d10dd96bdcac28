import Derived.Test.YbulkdvxuX7
namespace Go.Proofs.Ybulkdvxu
open Go.RowKit

/-- A target brought into the range of counts. -/
def tmN (n : Nat) (x : Int) : Nat := (x % 4294967296).toNat % n
theorem tmN_lt (n : Nat) (x : Int) (hn : n ≠ 0) : tmN n x < n := Nat.mod_lt _ (by omega)
theorem tmN_int (n : Nat) (x : Int) : ((tmN n x : Nat) : Int) = x % 4294967296 % n := by
  unfold tmN
  have h : 0 ≤ x % 4294967296 := by omega
  rw [Int.natCast_emod, Int.toNat_of_nonneg h]

set_option maxRecDepth 1000000 in
set_option maxHeartbeats 4000000 in
theorem tail9 (w0 w : World) {c1 c3 c4 c5 c6 c7 c8 c9 c14 c15 c16 c17 c18 c19 c20 c21 c22 c23 c24 c25 c26 c27 c28 c29 c30 c31 c32 c33 c34 c35 c36 c37 c38 c39 c40 c41 c42 c43 c44 c45 c46 c47 c48 c49 c50 c51 c52 c53 c54 c55 c56 c57 c58 c59 c60 c61 c62 c63 c64 c65 c66 c67 c68 c69 c70 c71 c72 c73 c74 c75 c76 c77 c78 c79 c80 c81 c82 c83 c84 c85 c86 c87 c88 c89 c90 c91 c92 c93 c94 c95 c96 c97 c98 c99 c100 c101 c102 c103 c104 c105 c106 c107 c108 c109 c110 c111 c112 c113 c114 c115 c116 c117 c118 c119 c120 c121 c122 c123 c124 c125 c126 c127 c128 c129 c130 c131 c132 c133 c134 c135 c136 c137 c138 c139 c140 c141 c142 c143 c144 c145 c146 c147 c148 c149 c150 c151 c152 c153 c154 c155 c156 c157 c158 c159 c160 c161 c162 c163 c164 c165 c166 c167 c168 c169 c170 c171 c172 c173 c174 c175 c176 c177 c178 c179 c180 c181 c182 c183 c184 c185 c186 c187 c188 c189 c190 c191 c192 c193 : Value} {pn pc tn tc rl rc n cc kc : Nat} {pa ta ra ca ka : Option Addr} {Fn Tn : Nat → Nat} {B : Nat → Bool} {R : Nat → Int}
    (hP : PA w pa pn (fun i => ((Fn (i + 1) - Fn i : Nat) : Int)) (fun i => ((Fn i : Nat) : Int))) (hF0 : Fn 0 = 0) (hFs : ∀ i, i < pn → Fn i ≤ Fn (i + 1)) (hFt : Fn pn = tn) (hFb : ∀ i, i ≤ pn → Fn i ≤ tn)
    (hn : ta = none → tn = 0 ∧ tc = 0) (hs : ∀ x, ta = some x → x.spot = none) (h2 : tn ≤ tc) (h4 : tn ≤ 4096) (hpn : pn ≤ 4096) (hrl : rl ≤ 4096) (hnn : n ≤ 4096) (hpnil : pa = none → pn = 0 ∧ pc = 0)
    (hT : CA w ta tn fun j => .int .i32 ((Tn j : Nat) : Int)) (hTn : ∀ j, j < tn → Tn j < n) (hR : CA w ra rl fun j => .int .i32 (R j)) (hRb : ∀ j, j < rl → -2147483648 ≤ R j ∧ R j ≤ 2147483647) (hB : CA w ca n fun j => .bool (B j)) (hK : CA w ka n fun j => .bool (B j)) (hcn : ca = none → n = 0 ∧ cc = 0) (hBel : Below w0.heap.size w0 w) :
    Code.wp Yba.prog (sndN 9 (Yba.f3.body.getD .skip)) (bodyPost Yba.prog Yba.f3 (fun e w' => e = .returned (.bool true) ∧ Below w0.heap.size w0 w')) ⟨#[.slice ca n cc, c1, .slice ra rl rc, c3, c4, c5, c6, c7, c8, c9, .int .i64 (n : Nat), .slice ka n kc, .slice ta tn tc, .slice pa pn pc, c14, c15, c16, c17, c18, c19, c20, c21, c22, c23, c24, c25, c26, c27, c28, c29, c30, c31, c32, c33, c34, c35, c36, c37, c38, c39, c40, c41, c42, c43, c44, c45, c46, c47, c48, c49, c50, c51, c52, c53, c54, c55, c56, c57, c58, c59, c60, c61, c62, c63, c64, c65, c66, c67, c68, c69, c70, c71, c72, c73, c74, c75, c76, c77, c78, c79, c80, c81, c82, c83, c84, c85, c86, c87, c88, c89, c90, c91, c92, c93, c94, c95, c96, c97, c98, c99, c100, c101, c102, c103, c104, c105, c106, c107, c108, c109, c110, c111, c112, c113, c114, c115, c116, c117, c118, c119, c120, c121, c122, c123, c124, c125, c126, c127, c128, c129, c130, c131, c132, c133, c134, c135, c136, c137, c138, c139, c140, c141, c142, c143, c144, c145, c146, c147, c148, c149, c150, c151, c152, c153, c154, c155, c156, c157, c158, c159, c160, c161, c162, c163, c164, c165, c166, c167, c168, c169, c170, c171, c172, c173, c174, c175, c176, c177, c178, c179, c180, c181, c182, c183, c184, c185, c186, c187, c188, c189, c190, c191, c192, c193], []⟩ w := by
  show Code.wp _ (Code.seq _ _) _ _ _
  have HP := hide' hP
  have HF0 := hide' hF0
  have HFs := hide' hFs
  have HFt := hide' hFt
  have HFb := hide' hFb
  have HN := hide' hn
  have HS := hide' hs
  have HPN := hide' hpnil
  have HT := hide' hT
  have HTn := hide' hTn
  have HR := hide' hR
  have HRb := hide' hRb
  have HB := hide' hB
  have HK := hide' hK
  have HCN := hide' hcn
  have HL := hide' hBel
  clear hP hF0 hFs hFt hFb hn hs hT hTn hR hRb hB hcn hBel hpnil hK
  refine seq_hid fun K1 HK1 => ?_
  go_wp2_with fail
  refine HK1.out _ _ ?_
  clear HK1
  refine seq_hid fun K2 HK2 => ?_
  by_cases hn0 : n = 0
  · subst hn0
    go_wp2_with fail
    exact HK2.out _ _ (tail11 w0 w (Rn := fun _ => 0) HP.out HF0.out HFs.out HFt.out HFb.out HN.out HS.out h2 h4 hpn (by omega) hnn HPN.out (fun _ => ⟨rfl, rfl⟩) HT.out HTn.out (.inl rfl) (fun j hj => by omega) HB.out HK.out (fun h => ⟨rfl, (HCN.out h).2⟩) HL.out)
  · have hpos : 0 < n := by omega
    obtain ⟨i0, hi, hz0, hz1, hz2⟩ := info_parts Yba.info21
    go_wp2_with fail
    go_loopw [18, 114] (fun v i wr => ∃ k : Nat, k ≤ rl ∧ i = .int .i64 k ∧ wr.ownsRow w.heap.size 21 1 v k ((List.range k).map fun j => .int .i32 ((tmN n (R j) : Nat) : Int)) ∧ Below w.heap.size w wr) (fun _ i _ => rl - (intOf i).toNat)
    case atStart => exact ⟨0, Nat.zero_le _, rfl, World.ownsRow_nil _ _ _ _, Below.refl _ _⟩
    case round =>
      obtain ⟨k, hk, rfl, hown, hbel⟩ := hrel
      by_cases hlt : k < rl
      · obtain ⟨rb, ro, rfl, hc⟩ : ∃ b off, ra = some ⟨b, off, none⟩ ∧ wr.cell? ⟨b, off + k, none⟩ = some (.int .i32 (R k)) := by
          rcases HR.out with h | ⟨b, off, hx, h⟩
          · omega
          · have hc := h k hlt
            exact ⟨b, off, hx, (hbel.cell (p := ⟨b, _, none⟩) (World.block_lt_of_cell? w _ hc)).trans hc⟩
        have hz := HRb.out k hlt
        have HO := hide' hown
        have HBr := hide' hbel
        have hws : w.heap.size ≤ wr.heap.size := hbel.size
        clear hown hbel
        generalize hRk : R k = z at hc hz
        have HRk := hide' hRk
        clear hRk
        obtain ⟨hz1', hz2'⟩ := hz
        have hlt' : (k : Int) < (rl : Int) := by omega
        obtain ⟨t, ht⟩ : ∃ t, t = tmN n z := ⟨_, rfl⟩
        have hr : z % 4294967296 % (n : Int) = (t : Int) := by rw [ht]; exact (tmN_int n z).symm
        have htn : t < n := by rw [ht]; exact tmN_lt n z hn0
        have HTT := hide' ht
        clear ht
        have HNW : Hid (∀ j u, ([.int .i32 (t : Nat)] : List Value)[j]? = some u → (wr.alloc (.cells #[.int .i32 (t : Nat)] 21)).cell? ((⟨wr.heap.size, 0, none⟩ : Addr).add j) = some u) := by
          intro j u hj
          rw [add_plain, World.cell?_alloc_at _ _ _ _ rfl]
          simpa using hj
        go_wp2_with (at_builtin; refine wpList_append_own _ rfl (.tmp 118) (.tmp 125) 24 rfl w.heap.size 21 i0 _ 1 4 Yba.underlying24 hi hz0 hz1 hz2 rfl (by decide) _ k _ rfl (HO.out.alloc _) ⟨wr.heap.size, 0, none⟩ 1 1 [.int .i32 (t : Nat)] rfl rfl HNW.out (by simp [Value.oneCell']) (by simp only [maxLen]; omega) (by omega) (by simp; omega) ?_; intro v' w' hown hgrow _; have HO2 := hide' hown; have HG2 := hide' hgrow; clear hown hgrow)
        go_roundw
        case rel => exact ⟨k + 1, by omega, by go_num, by have h := HO2.out; rw [HTT.out, ← HRk.out] at h; rw [List.range_succ, List.map_append]; exact h, ((HBr.out.alloc hws _)).grown HG2.out (by simp; omega) (fun j hj => (HO.out.lt j hj).1)⟩
        case measure => simp [intOf]; omega
      · obtain rfl : k = rl := by omega
        obtain ⟨ra', rc', rfl, hrc, hrn, _, how⟩ := own_ow hown
        have HO := hide' how.ca
        have HBr := hide' hbel
        have HRN := hide' hrn
        clear how hbel hown hrn
        go_wp2_with fail
        have hb := HBr.out
        exact HK2.out _ _ (tail11 w0 wr (Rn := fun j => tmN n (R j)) (HP.out.kept hb) HF0.out HFs.out HFt.out HFb.out HN.out HS.out h2 h4 hpn hrl hnn HPN.out HRN.out (HT.out.kept hb) HTn.out HO.out (fun j _ => tmN_lt n _ hn0) (HB.out.kept hb) (HK.out.kept hb) HCN.out (HL.out.trans (hb.mono HL.out.size)))
end Go.Proofs.Ybulkdvxu
