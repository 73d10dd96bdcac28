import Derived.Test.YbulkdvxuX9
namespace Go.Proofs.Ybulkdvxu
open Go.RowKit

set_option maxRecDepth 1000000 in
set_option maxHeartbeats 4000000 in
theorem tail3 (w0 w : World) {c3 c4 c5 c6 c8 c9 c10 c11 c12 c13 c14 c15 c16 c17 c18 c19 c20 c21 c22 c23 c24 c25 c26 c27 c28 c29 c30 c31 c32 c33 c34 c35 c36 c37 c38 c39 c40 c41 c42 c43 c44 c45 c46 c47 c48 c49 c50 c51 c52 c53 c54 c55 c56 c57 c58 c59 c60 c61 c62 c63 c64 c65 c66 c67 c68 c69 c70 c71 c72 c73 c74 c75 c76 c77 c78 c79 c80 c81 c82 c83 c84 c85 c86 c87 c88 c89 c90 c91 c92 c93 c94 c95 c96 c97 c98 c99 c100 c101 c102 c103 c104 c105 c106 c107 c108 c109 c110 c111 c112 c113 c114 c115 c116 c117 c118 c119 c120 c121 c122 c123 c124 c125 c126 c127 c128 c129 c130 c131 c132 c133 c134 c135 c136 c137 c138 c139 c140 c141 c142 c143 c144 c145 c146 c147 c148 c149 c150 c151 c152 c153 c154 c155 c156 c157 c158 c159 c160 c161 c162 c163 c164 c165 c166 c167 c168 c169 c170 c171 c172 c173 c174 c175 c176 c177 c178 c179 c180 c181 c182 c183 c184 c185 c186 c187 c188 c189 c190 c191 c192 c193 : Value} {pn qc rl rc n cc tot : Nat} {qa ra ca : Option Addr} {A : Nat → Option Addr} {L C : Nat → Nat} {V : Nat → Nat → Int} {B : Nat → Bool} {R : Nat → Int}
    (hQ : QA w qa pn A L C V) (hV : ∀ i j, i < pn → j < L i → -2147483648 ≤ V i j ∧ V i j ≤ 2147483647) (ht : tot = rl + Fs 1 L pn) (hn : n ≤ 140737488355328) (hpn : pn ≤ 140737488355328) (htb : tot ≤ 281474976710656)
    (hR : CA w ra rl fun j => .int .i32 (R j)) (hRb : ∀ j, j < rl → -2147483648 ≤ R j ∧ R j ≤ 2147483647) (hB : CA w ca n fun j => .bool (B j)) (hcn : ca = none → n = 0 ∧ cc = 0) (hBel : Below w0.heap.size w0 w) :
    Code.wp Yba.prog (sndN 3 (Yba.f3.body.getD .skip)) (bodyPost Yba.prog Yba.f3 (fun e w' => e = .returned (.bool true) ∧ Below w0.heap.size w0 w')) ⟨#[.slice ca n cc, .slice qa pn qc, .slice ra rl rc, c3, c4, c5, c6, .int .i64 (tot : Nat), c8, c9, c10, c11, c12, c13, c14, c15, c16, c17, c18, c19, c20, c21, c22, c23, c24, c25, c26, c27, c28, c29, c30, c31, c32, c33, c34, c35, c36, c37, c38, c39, c40, c41, c42, c43, c44, c45, c46, c47, c48, c49, c50, c51, c52, c53, c54, c55, c56, c57, c58, c59, c60, c61, c62, c63, c64, c65, c66, c67, c68, c69, c70, c71, c72, c73, c74, c75, c76, c77, c78, c79, c80, c81, c82, c83, c84, c85, c86, c87, c88, c89, c90, c91, c92, c93, c94, c95, c96, c97, c98, c99, c100, c101, c102, c103, c104, c105, c106, c107, c108, c109, c110, c111, c112, c113, c114, c115, c116, c117, c118, c119, c120, c121, c122, c123, c124, c125, c126, c127, c128, c129, c130, c131, c132, c133, c134, c135, c136, c137, c138, c139, c140, c141, c142, c143, c144, c145, c146, c147, c148, c149, c150, c151, c152, c153, c154, c155, c156, c157, c158, c159, c160, c161, c162, c163, c164, c165, c166, c167, c168, c169, c170, c171, c172, c173, c174, c175, c176, c177, c178, c179, c180, c181, c182, c183, c184, c185, c186, c187, c188, c189, c190, c191, c192, c193], []⟩ w := by
  show Code.wp _ (Code.seq _ _) _ _ _
  have HQ := hide' hQ
  have HV := hide' hV
  have HTT := hide' ht
  have HR := hide' hR
  have HRb := hide' hRb
  have HB := hide' hB
  have HCN := hide' hcn
  have HL := hide' hBel
  clear hQ hV hR hRb hB hcn hBel ht
  by_cases h1 : 4096 < n
  · have h1' : (4096 : Int) < (n : Int) := by omega
    go_wp2_with fail
    go_ret
    exact ⟨rfl, HL.out⟩
  by_cases h2 : 4096 < tot
  · have h2' : (4096 : Int) < (tot : Int) := by omega
    go_wp2_with fail
    go_ret
    exact ⟨rfl, HL.out⟩
  by_cases h3 : 4096 < pn
  · have h3' : (4096 : Int) < (pn : Int) := by omega
    go_wp2_with fail
    go_ret
    exact ⟨rfl, HL.out⟩
  refine seq_hid fun K1 HK1 => ?_
  go_wp2_with fail
  refine HK1.out _ _ ?_
  clear HK1
  refine seq_hid fun K2 HK2 => ?_
  go_wp2_with fail
  refine HK2.out _ _ ?_
  clear HK2
  refine seq_hid fun K3 HK3 => ?_
  go_wp2_with fail
  refine (cloneB cc (by omega) HCN.out HB.out).mono ?_
  rintro e w1 ⟨ka, kc, rfl, how, hbel⟩
  have HO := hide' how.ca
  have HB1 := hide' hbel
  clear how hbel
  go_wp2_with fail
  have hb := HB1.out
  have htt := HTT.out
  exact HK3.out _ _ (tail6 w0 w1 (HQ.out.kept hb) HV.out (by omega) (by omega) (by omega) (by omega) (HR.out.kept hb) HRb.out (HB.out.kept hb) HO.out HCN.out (HL.out.trans (hb.mono HL.out.size)))

set_option maxRecDepth 1000000 in
set_option maxHeartbeats 4000000 in
theorem law (w : World) {pn qc rl rc n cc : Nat} {qa ra ca : Option Addr} {A : Nat → Option Addr} {L C : Nat → Nat} {V : Nat → Nat → Int} {B : Nat → Bool} {R : Nat → Int}
    (hQ : QA w qa pn A L C V) (hV : ∀ i j, i < pn → j < L i → -2147483648 ≤ V i j ∧ V i j ≤ 2147483647) (hL : ∀ i, i < pn → L i ≤ 140737488355328) (hn : n ≤ 140737488355328) (hpn : pn ≤ 140737488355328) (hrl : rl ≤ 140737488355328)
    (hR : CA w ra rl fun j => .int .i32 (R j)) (hRb : ∀ j, j < rl → -2147483648 ≤ R j ∧ R j ≤ 2147483647) (hB : CA w ca n fun j => .bool (B j)) (hcn : ca = none → n = 0 ∧ cc = 0) :
    Calls Yba.prog 3 #[.slice ca n cc, .slice qa pn qc, .slice ra rl rc] w fun e w' => e = .returned (.bool true) ∧ Below w.heap.size w w' := by
  have HQ := hide' hQ
  have HV := hide' hV
  have HLL := hide' hL
  have HR := hide' hR
  have HRb := hide' hRb
  have HB := hide' hB
  have HCN := hide' hcn
  clear hQ hV hR hRb hB hcn hL
  go_enter Yba.func3, Yba.ntmps3
  refine seq_hid fun K1 HK1 => ?_
  go_wp2_with fail
  refine HK1.out _ _ ?_
  clear HK1
  refine seq_hid fun K2 HK2 => ?_
  go_wp2_with fail
  refine HK2.out _ _ ?_
  clear HK2
  refine seq_hid fun K3 HK3 => ?_
  go_wp2_with fail
  go_loop [7, 32] (fun t i => ∃ k tt : Nat, k ≤ pn ∧ i = .int .i64 k ∧ t = .int .i64 (tt : Nat) ∧ tt = rl + Fs 1 L k ∧ tt ≤ 140737488355328) (fun _ i => pn - (intOf i).toNat)
  case atStart => exact ⟨0, rl, Nat.zero_le _, rfl, rfl, rfl, hrl⟩
  case round =>
    obtain ⟨k, tt, hk, rfl, rfl, htt, htb⟩ := hrel
    have HT := hide' htt
    clear htt
    by_cases hlt : k < pn
    · obtain ⟨qb, qo, rfl, hc⟩ : ∃ b off, qa = some ⟨b, off, none⟩ ∧ w.cell? ⟨b, off + k, none⟩ = some (.slice (A k) (L k) (C k)) := by
        rcases HQ.out with h | ⟨b, off, hx, h⟩
        · omega
        · exact ⟨b, off, hx, (h k hlt).1⟩
      have hLk := HLL.out k hlt
      have HF : Hid (Fs 1 L (k + 1) = Fs 1 L k + L k) := by unfold Hid; simp [Fs]
      obtain ⟨lk, hlk⟩ : ∃ lk, lk = L k := ⟨_, rfl⟩
      rw [← hlk] at hc hLk HF
      clear hlk
      have hlt' : (k : Int) < (pn : Int) := by omega
      by_cases g1 : 4096 < lk
      · have g1' : (4096 : Int) < (lk : Int) := by omega
        go_wp2_with fail
        go_ret
        exact ⟨rfl, Below.refl _ _⟩
      · by_cases g2 : 4096 < tt + lk
        · have g2' : (4096 : Int) < (tt : Int) + (lk : Int) := by omega
          go_wp2_with fail
          go_ret
          exact ⟨rfl, Below.refl _ _⟩
        · have g2' : ¬ (4096 : Int) < (tt : Int) + (lk : Int) := by omega
          go_wp2_with fail
          go_round
          case rel => exact ⟨k + 1, tt + lk, by omega, by go_num, by go_num, by rw [HF.out, HT.out]; omega, by omega⟩
          case measure => simp [intOf]; omega
    · obtain rfl : k = pn := by omega
      go_wp2_with fail
      exact HK3.out _ _ (tail3 w w HQ.out HV.out HT.out hn hpn (by omega) HR.out HRb.out HB.out HCN.out (Below.refl _ _))
end Go.Proofs.Ybulkdvxu
