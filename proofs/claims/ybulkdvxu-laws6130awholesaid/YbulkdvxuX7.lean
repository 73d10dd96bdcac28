import Derived.Test.YbulkdvxuX6
namespace Go.Proofs.Ybulkdvxu
open Go.RowKit

set_option maxRecDepth 1000000 in
set_option maxHeartbeats 4000000 in
theorem tail11 (w0 w : World) {c1 c2 c3 c4 c5 c6 c7 c8 c9 c14 c15 c16 c17 c19 c20 c21 c22 c23 c24 c25 c26 c27 c28 c29 c30 c31 c32 c33 c34 c35 c36 c37 c38 c39 c40 c41 c42 c43 c44 c45 c46 c47 c48 c49 c50 c51 c52 c53 c54 c55 c56 c57 c58 c59 c60 c61 c62 c63 c64 c65 c66 c67 c68 c69 c70 c71 c72 c73 c74 c75 c76 c77 c78 c79 c80 c81 c82 c83 c84 c85 c86 c87 c88 c89 c90 c91 c92 c93 c94 c95 c96 c97 c98 c99 c100 c101 c102 c103 c104 c105 c106 c107 c108 c109 c110 c111 c112 c113 c114 c115 c116 c117 c118 c119 c120 c121 c122 c123 c124 c125 c126 c127 c128 c129 c130 c131 c132 c133 c134 c135 c136 c137 c138 c139 c140 c141 c142 c143 c144 c145 c146 c147 c148 c149 c150 c151 c152 c153 c154 c155 c156 c157 c158 c159 c160 c161 c162 c163 c164 c165 c166 c167 c168 c169 c170 c171 c172 c173 c174 c175 c176 c177 c178 c179 c180 c181 c182 c183 c184 c185 c186 c187 c188 c189 c190 c191 c192 c193 : Value} {pn pc tn tc rn rc n cc kc : Nat} {pa ta ra ca ka : Option Addr} {Fn Tn Rn : Nat → Nat} {B : Nat → Bool}
    (hP : PA w pa pn (fun i => ((Fn (i + 1) - Fn i : Nat) : Int)) (fun i => ((Fn i : Nat) : Int))) (hF0 : Fn 0 = 0) (hFs : ∀ i, i < pn → Fn i ≤ Fn (i + 1)) (hFt : Fn pn = tn) (hFb : ∀ i, i ≤ pn → Fn i ≤ tn)
    (hn : ta = none → tn = 0 ∧ tc = 0) (hs : ∀ x, ta = some x → x.spot = none) (h2 : tn ≤ tc) (h4 : tn ≤ 4096) (hpn : pn ≤ 4096) (hrn : rn ≤ 4096) (hnn : n ≤ 4096) (hpnil : pa = none → pn = 0 ∧ pc = 0) (hrnil : ra = none → rn = 0 ∧ rc = 0)
    (hT : CA w ta tn fun j => .int .i32 ((Tn j : Nat) : Int)) (hTn : ∀ j, j < tn → Tn j < n) (hR : CA w ra rn fun j => .int .i32 ((Rn j : Nat) : Int)) (hRn : ∀ j, j < rn → Rn j < n) (hB : CA w ca n fun j => .bool (B j)) (hK : CA w ka n fun j => .bool (B j)) (hcn : ca = none → n = 0 ∧ cc = 0) (hBel : Below w0.heap.size w0 w) :
    Code.wp Yba.prog (sndN 11 (Yba.f3.body.getD .skip)) (bodyPost Yba.prog Yba.f3 (fun e w' => e = .returned (.bool true) ∧ Below w0.heap.size w0 w')) ⟨#[.slice ca n cc, c1, c2, c3, c4, c5, c6, c7, c8, c9, .int .i64 (n : Nat), .slice ka n kc, .slice ta tn tc, .slice pa pn pc, c14, c15, c16, c17, .slice ra rn rc, c19, c20, c21, c22, c23, c24, c25, c26, c27, c28, c29, c30, c31, c32, c33, c34, c35, c36, c37, c38, c39, c40, c41, c42, c43, c44, c45, c46, c47, c48, c49, c50, c51, c52, c53, c54, c55, c56, c57, c58, c59, c60, c61, c62, c63, c64, c65, c66, c67, c68, c69, c70, c71, c72, c73, c74, c75, c76, c77, c78, c79, c80, c81, c82, c83, c84, c85, c86, c87, c88, c89, c90, c91, c92, c93, c94, c95, c96, c97, c98, c99, c100, c101, c102, c103, c104, c105, c106, c107, c108, c109, c110, c111, c112, c113, c114, c115, c116, c117, c118, c119, c120, c121, c122, c123, c124, c125, c126, c127, c128, c129, c130, c131, c132, c133, c134, c135, c136, c137, c138, c139, c140, c141, c142, c143, c144, c145, c146, c147, c148, c149, c150, c151, c152, c153, c154, c155, c156, c157, c158, c159, c160, c161, c162, c163, c164, c165, c166, c167, c168, c169, c170, c171, c172, c173, c174, c175, c176, c177, c178, c179, c180, c181, c182, c183, c184, c185, c186, c187, c188, c189, c190, c191, c192, c193], []⟩ w := by
  show Code.wp _ (Code.seq _ _) _ _ _
  have HP := hide' hP
  have HF0 := hide' hF0
  have HFs := hide' hFs
  have HFt := hide' hFt
  have HFb := hide' hFb
  have HN := hide' hn
  have HS := hide' hs
  have HPN := hide' hpnil
  have HRN := hide' hrnil
  have HT := hide' hT
  have HTn := hide' hTn
  have HR := hide' hR
  have HRn := hide' hRn
  have HB := hide' hB
  have HK := hide' hK
  have HCN := hide' hcn
  have HL := hide' hBel
  clear hP hF0 hFs hFt hFb hn hs hT hTn hR hRn hB hcn hBel hpnil hrnil hK
  obtain ⟨P, hPd⟩ : ∃ P : Nat → Bool, P = fun j => B j || among (fun j => ((Tn j : Nat) : Int)) tn j || among (fun j => ((Rn j : Nat) : Int)) rn j := ⟨_, rfl⟩
  have HPd := hide' hPd
  clear hPd
  refine seq_hid fun K1 HK1 => ?_
  go_wp2_with fail
  refine HK1.out _ _ ?_
  clear HK1
  refine seq_hid fun K2 HK2 => ?_
  go_wp2_with fail
  go_loop [21, 22] (fun s i => ∃ x : Nat, x ≤ n ∧ i = .int .i64 x ∧ s = .int .i64 (cnt P x)) (fun _ i => n - (intOf i).toNat)
  case atStart => exact ⟨0, Nat.zero_le _, rfl, rfl⟩
  case round =>
    obtain ⟨x, hx, rfl, rfl⟩ := hrel
    have hcl := cnt_le P x
    by_cases hxn : x < n
    · obtain ⟨kb, ko, rfl, hc⟩ : ∃ b off, ka = some ⟨b, off, none⟩ ∧ w.cell? ⟨b, off + x, none⟩ = some (.bool (B x)) := by
        rcases HK.out with h | ⟨b, off, hk, h⟩
        · omega
        · exact ⟨b, off, hk, h x hxn⟩
      have hxn' : (x : Int) < (n : Int) := by omega
      have HCS : Hid (cnt P (x + 1) = cnt P x + if P x then 1 else 0) := rfl
      have HPx : Hid (P x = (B x || among (fun j => ((Tn j : Nat) : Int)) tn x || among (fun j => ((Rn j : Nat) : Int)) rn x)) := by unfold Hid; rw [HPd.out]
      cases hbx : B x with
      | true =>
        rw [hbx] at hc
        have HX := hide' hbx
        clear hbx
        go_wp2_with fail
        go_round
        case rel => exact ⟨x + 1, by omega, by go_num, by rw [HCS.out, HPx.out, HX.out]; simp⟩
        case measure => simp [intOf]; omega
      | false =>
        rw [hbx] at hc
        have HX := hide' hbx
        clear hbx
        go_wp2_with fail
        refine (has tc x (by omega) HT.out).mono ?_
        rintro e w' ⟨he, hw⟩
        subst w'
        cases hat : among (fun j => ((Tn j : Nat) : Int)) tn x with
        | true =>
          rw [hat] at he
          subst he
          have HAT := hide' hat
          clear hat
          go_wp2_with fail
          go_round
          case rel => exact ⟨x + 1, by omega, by go_num, by rw [HCS.out, HPx.out, HX.out, HAT.out]; simp⟩
          case measure => simp [intOf]; omega
        | false =>
          rw [hat] at he
          subst he
          have HAT := hide' hat
          clear hat
          go_wp2_with fail
          refine (has rc x (by omega) HR.out).mono ?_
          rintro e w' ⟨he, hw⟩
          subst w'
          cases har : among (fun j => ((Rn j : Nat) : Int)) rn x with
          | true =>
            rw [har] at he
            subst he
            have HAR := hide' har
            clear har
            go_wp2_with fail
            go_round
            case rel => exact ⟨x + 1, by omega, by go_num, by rw [HCS.out, HPx.out, HX.out, HAT.out, HAR.out]; simp⟩
            case measure => simp [intOf]; omega
          | false =>
            rw [har] at he
            subst he
            have HAR := hide' har
            clear har
            go_wp2_with fail
            go_round
            case rel => exact ⟨x + 1, by omega, by go_num, by rw [HCS.out, HPx.out, HX.out, HAT.out, HAR.out]; simp⟩
            case measure => simp [intOf]; omega
    · obtain rfl : x = n := by omega
      go_wp2_with fail
      refine HK2.out _ _ ?_
      rw [HPd.out]
      exact tail13 w0 w HP.out HF0.out HFs.out HFt.out HFb.out HN.out HS.out h2 h4 hpn hrn hnn HPN.out HRN.out HT.out HTn.out HR.out HRn.out HB.out HK.out HCN.out HL.out
end Go.Proofs.Ybulkdvxu
