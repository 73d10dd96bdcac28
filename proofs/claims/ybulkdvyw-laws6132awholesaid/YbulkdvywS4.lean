import Derived.Test.YbulkdvywS3
namespace Go.Proofs.Ybulkdvyw
open Go.RowKit

set_option maxRecDepth 1000000 in
set_option maxHeartbeats 4000000 in
theorem rtail2 (w0 w : World) {c0 c3 c4 c5 c14 c15 c16 c17 c18 c19 c20 c21 c22 c23 c24 c25 c26 c27 c28 c29 c30 c31 c32 c33 c34 c35 c36 c37 c38 c39 c40 c41 c42 c43 c44 c45 c46 c47 c48 c49 c50 c51 c52 c53 c54 c55 c56 c57 c58 c59 c60 c61 c62 c63 c64 c65 c66 c67 c68 c69 c70 c71 c72 c73 c74 c75 c76 c77 c78 c79 c80 c81 c82 c83 c84 c85 c86 c87 c88 c89 c90 c91 c92 c93 c94 c95 c96 c97 c98 c99 c100 c101 c102 c103 c104 c105 c106 c107 c108 c109 c110 c111 c112 c113 c114 c115 c116 c117 c118 c119 c120 c121 c122 c123 c124 c125 c126 c127 c128 c129 c130 c131 c132 c133 c134 c135 c136 c137 c138 c139 c140 c141 c142 c143 c144 c145 c146 c147 c148 c149 c150 c151 c152 c153 c154 : Value} {m bC bR : Nat} {A D : Nat → Nat} {g f : Nat → Int} (hA : ∀ i, i < 4 → A i < 18446744073709551616) (hD : ∀ i, i < 4 → D i < 18446744073709551616)
    (hC : AB w bC g) (hR : AB w bR f) (hne : bC ≠ bR) (hm : m ≤ bC) (hm2 : m ≤ bR) (hbut : But w0 w bC bR) (hbel : Below m w0 w) :
    Code.wp Yba.prog (sndN 2 (Yba.f6.body.getD .skip)) (bodyPost Yba.prog Yba.f6 (ReadPost m w0 bC bR (upd g D 4) (upd f A 4))) ⟨#[c0, .pointer (some ⟨bC, 0, none⟩), .pointer (some ⟨bR, 0, none⟩), c3, c4, c5, .int .u64 ((A 0 : Nat) : Int), .int .u64 ((A 1 : Nat) : Int), .int .u64 ((A 2 : Nat) : Int), .int .u64 ((A 3 : Nat) : Int), .int .u64 ((D 0 : Nat) : Int), .int .u64 ((D 1 : Nat) : Int), .int .u64 ((D 2 : Nat) : Int), .int .u64 ((D 3 : Nat) : Int), c14, c15, c16, c17, c18, c19, c20, c21, c22, c23, c24, c25, c26, c27, c28, c29, c30, c31, c32, c33, c34, c35, c36, c37, c38, c39, c40, c41, c42, c43, c44, c45, c46, c47, c48, c49, c50, c51, c52, c53, c54, c55, c56, c57, c58, c59, c60, c61, c62, c63, c64, c65, c66, c67, c68, c69, c70, c71, c72, c73, c74, c75, c76, c77, c78, c79, c80, c81, c82, c83, c84, c85, c86, c87, c88, c89, c90, c91, c92, c93, c94, c95, c96, c97, c98, c99, c100, c101, c102, c103, c104, c105, c106, c107, c108, c109, c110, c111, c112, c113, c114, c115, c116, c117, c118, c119, c120, c121, c122, c123, c124, c125, c126, c127, c128, c129, c130, c131, c132, c133, c134, c135, c136, c137, c138, c139, c140, c141, c142, c143, c144, c145, c146, c147, c148, c149, c150, c151, c152, c153, c154], []⟩ w := by
  show Code.wp _ (Code.seq _ _) _ _ _
  have HA := hide' hA
  have HD := hide' hD
  have HC := hide' hC
  have HR := hide' hR
  have HBut := hide' hbut
  have HBel := hide' hbel
  clear hA hD hC hR hbut hbel
  refine seq_hid fun K1 HK1 => ?_
  go_wp2_with fail
  go_loopw [94] (fun i wr => ∃ k : Nat, k ≤ 4 ∧ i = .int .i64 k ∧ AB wr bR (upd f A k) ∧ AB wr bC g ∧ But w0 wr bC bR ∧ Below m w0 wr) (fun i _ => 4 - (intOf i).toNat)
  case atStart => exact ⟨0, Nat.zero_le _, rfl, HR.out.congr fun i _ => (upd_zero _ _ _).symm, HC.out, HBut.out, HBel.out⟩
  case round =>
    obtain ⟨k, hk, rfl, hC, hR, hbut, hbel⟩ := hrel
    by_cases hlt : k < 4
    · have hlt' : (k : Int) < 4 := by omega
      have hak := HA.out k hlt
      have c1 := hC.cell (i := k) (by omega)
      have c2 := hC.cell (i := k + 4) (by omega)
      rw [upd_lo f A k hlt] at c1
      rw [upd_hi f A k hlt] at c2
      have f1 := hC.fro k
      have f2 := hC.fro (k + 4)
      have hb := hC.lt
      replace hC := hide' hC
      replace hR := hide' hR
      replace hbut := hide' hbut
      replace hbel := hide' hbel
      have hix := fun w => idx31 A k hlt w
      go_wp2_with fail
      clear hix
      go_region
      have hC1 : AB ((wr.setCell ⟨bR, k, none⟩ (Value.int IntKind.i64 (wrap64 (f k + (A k : Int) % 4294967296)))).drew) bR _ := hC.out.set (t := k) (by omega) (wrap64 (f k + (A k : Int) % 4294967296))
      have hR1 : AB ((wr.setCell ⟨bR, k, none⟩ (Value.int IntKind.i64 (wrap64 (f k + (A k : Int) % 4294967296)))).drew) bC g := hR.out.after hne _ _
      have hbut1 : But w0 ((wr.setCell ⟨bR, k, none⟩ (Value.int IntKind.i64 (wrap64 (f k + (A k : Int) % 4294967296)))).drew) bC bR := hbut.out.set2 _ _
      have hbel1 : Below m w0 ((wr.setCell ⟨bR, k, none⟩ (Value.int IntKind.i64 (wrap64 (f k + (A k : Int) % 4294967296)))).drew) := (hbel.out.setCell (p := ⟨bR, k, none⟩) hm2 _).drew
      clear hC hR hbut hbel c1 c2 f1 f2 hb
      generalize (wr.setCell ⟨bR, k, none⟩ (Value.int IntKind.i64 (wrap64 (f k + (A k : Int) % 4294967296)))).drew = w1 at hC1 hR1 hbut1 hbel1 ⊢
      have c2 := hC1.cell (i := k + 4) (by omega)
      rw [if_neg (by omega), upd_hi f A k hlt] at c2
      have f2 := hC1.fro (k + 4)
      have hb := hC1.lt
      replace hC1 := hide' hC1
      replace hR1 := hide' hR1
      replace hbut1 := hide' hbut1
      replace hbel1 := hide' hbel1
      go_wp2_with fail
      go_region
      have hC2 : AB ((w1.setCell ⟨bR, k + 4, none⟩ (Value.int IntKind.i64 (wrap64 (f (k + 4) + (A k : Int) / 4294967296)))).drew) bR (upd f A (k + 1)) := (hC1.out.set (t := k + 4) (by omega) (wrap64 (f (k + 4) + (A k : Int) / 4294967296))).congr fun i hi => upd_step f A k i hlt hi
      have hR2 : AB ((w1.setCell ⟨bR, k + 4, none⟩ (Value.int IntKind.i64 (wrap64 (f (k + 4) + (A k : Int) / 4294967296)))).drew) bC g := hR1.out.after hne _ _
      have hbut2 : But w0 ((w1.setCell ⟨bR, k + 4, none⟩ (Value.int IntKind.i64 (wrap64 (f (k + 4) + (A k : Int) / 4294967296)))).drew) bC bR := hbut1.out.set2 _ _
      have hbel2 : Below m w0 ((w1.setCell ⟨bR, k + 4, none⟩ (Value.int IntKind.i64 (wrap64 (f (k + 4) + (A k : Int) / 4294967296)))).drew) := (hbel1.out.setCell (p := ⟨bR, k + 4, none⟩) hm2 _).drew
      clear hC1 hR1 hbut1 hbel1 c2 f2 hb
      generalize (w1.setCell ⟨bR, k + 4, none⟩ (Value.int IntKind.i64 (wrap64 (f (k + 4) + (A k : Int) / 4294967296)))).drew = w2 at hC2 hR2 hbut2 hbel2 ⊢
      replace hC2 := hide' hC2
      replace hR2 := hide' hR2
      replace hbut2 := hide' hbut2
      replace hbel2 := hide' hbel2
      go_wp2_with fail
      go_roundw
      case rel => exact ⟨k + 1, by omega, by simp, hC2.out, hR2.out, hbut2.out, hbel2.out⟩
      case measure => simp [intOf]; omega
    · obtain rfl : k = 4 := by omega
      replace hC := hide' hC
      replace hR := hide' hR
      replace hbut := hide' hbut
      replace hbel := hide' hbel
      go_wp2_with fail
      exact HK1.out _ _ (rtail3 w0 wr HD.out hR.out hC.out hne hm hbut.out hbel.out)
end Go.Proofs.Ybulkdvyw
