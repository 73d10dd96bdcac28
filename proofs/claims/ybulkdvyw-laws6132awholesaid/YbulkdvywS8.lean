import Derived.Test.YbulkdvywS7
namespace Go.Proofs.Ybulkdvyw
open Go.RowKit

/-- What is expected, while it is filled. -/
def upz (f : Nat → Int) (A : Nat → Nat) (k i : Nat) : Int := if i % 4 < k then upd f A 4 i else 0
theorem upz_zero (f : Nat → Int) (A : Nat → Nat) (i : Nat) : upz f A 0 i = 0 := by unfold upz; simp
theorem upz_four (f : Nat → Int) (A : Nat → Nat) (i : Nat) : upz f A 4 i = upd f A 4 i := by unfold upz; rw [if_pos (by omega)]
theorem upz_step (f : Nat → Int) (A : Nat → Nat) (k i : Nat) (hk : k < 4) (hi : i < 8) :
    (if i = k + 4 then wrap64 (f (k + 4) + (A k : Int) / 4294967296) else if i = k then wrap64 (f k + (A k : Int) % 4294967296) else upz f A k i) = upz f A (k + 1) i := by
  unfold upz
  by_cases h1 : i = k + 4
  · subst h1
    rw [if_pos rfl, if_pos (by omega)]
    unfold upd
    rw [if_neg (by omega), if_pos (by omega), Nat.add_sub_cancel]
  · rw [if_neg h1]
    by_cases h2 : i = k
    · subst h2
      rw [if_pos rfl, if_pos (by omega)]
      unfold upd
      rw [if_pos hk, if_pos hk]
    · rw [if_neg h2]
      by_cases h3 : i % 4 < k
      · rw [if_pos h3, if_pos (by omega)]
      · rw [if_neg h3, if_neg (by omega)]

theorem lane_or (x q : Nat) : bits .or .u64 ((pc (x / 256 ^ q % 256) : Nat) : Int) (((pc (x / 256 ^ (q + 4) % 256) : Nat) : Int) * 4294967296) = ((lane x q : Nat) : Int) := by
  have h1 := pc_le (x / 256 ^ q % 256)
  have h2 := pc_le (x / 256 ^ (q + 4) % 256)
  unfold lane
  generalize pc (x / 256 ^ q % 256) = p at h1
  generalize pc (x / 256 ^ (q + 4) % 256) = r at h2
  have h := u64_or_nat p (r * 4294967296) (by omega) (by omega)
  rw [Nat.or_comm, nat_join 32 (r * 4294967296) p (by omega) (by omega)] at h
  have e : ((r : Int) * 4294967296) = ((r * 4294967296 : Nat) : Int) := by omega
  rw [e, h]
  omega
theorem low32 (x : Nat) (hx : x < 18446744073709551616) : bits .and .u64 (x : Int) 4294967295 = (x : Int) % 4294967296 := by
  have h := u64_and_nat x 4294967295 hx (by decide)
  rw [show x &&& 4294967295 = x % 4294967296 from Nat.and_two_pow_sub_one_eq_mod x 32] at h
  exact h

set_option maxRecDepth 1000000 in
set_option maxHeartbeats 4000000 in
theorem t4 (w0 w : World) {c1 c2 c3 c6 c8 c9 c10 c11 c12 c13 c14 c15 c16 c17 c18 c19 c20 c21 c22 c23 c24 c25 c26 c27 c28 c29 c30 c31 c32 c33 c34 c35 c36 c37 c38 c39 c40 c41 c42 c43 c44 c45 c46 c47 c48 c49 c50 c51 c52 c53 c54 c55 c56 c57 c58 c59 c60 c61 c62 c63 c64 c65 c66 c67 c68 c69 c70 c71 c72 c73 c74 c75 c76 c77 c78 c79 c80 c81 c82 c83 c84 c85 c86 c87 c88 c89 c90 c91 c92 c93 c94 c95 c96 c97 c98 c99 c100 c101 c102 c103 c104 c105 c106 c107 c108 c109 c110 c111 c112 c113 c114 c115 c116 c117 c118 c119 c120 c121 c122 c123 c124 c125 c126 c127 c128 c129 c130 c131 c132 c133 c134 c135 c136 c137 c138 c139 c140 c141 c142 c143 c144 c145 c146 c147 c148 c149 c150 c151 c152 c153 : Value} {a a' : Option Addr} {n c c' bR bC : Nat} {xs : Nat → Nat} {f g : Nat → Int} (hn : n ≤ 1048576) (hx : ∀ j, j < n → xs j < 18446744073709551616)
    (hS : CA w a n fun j => .int .u64 ((xs j : Nat) : Int)) (hK : CA w a' n fun j => .int .u64 ((xs j : Nat) : Int)) (hnil : a.isNone = a'.isNone)
    (h1 : AB w bR f) (h3 : AB w bC g) (hB : Below w0.heap.size w0 w) :
    Code.wp Yba.prog (sndN 4 (Yba.f3.body.getD .skip)) (bodyPost Yba.prog Yba.f3 (fun e w' => e = .returned (.bool true) ∧ Below w0.heap.size w0 w')) ⟨#[.slice a n c, c1, c2, c3, .pointer (some ⟨bC, 0, none⟩), .pointer (some ⟨bR, 0, none⟩), c6, .slice a' n c', c8, c9, c10, c11, c12, c13, c14, c15, c16, c17, c18, c19, c20, c21, c22, c23, c24, c25, c26, c27, c28, c29, c30, c31, c32, c33, c34, c35, c36, c37, c38, c39, c40, c41, c42, c43, c44, c45, c46, c47, c48, c49, c50, c51, c52, c53, c54, c55, c56, c57, c58, c59, c60, c61, c62, c63, c64, c65, c66, c67, c68, c69, c70, c71, c72, c73, c74, c75, c76, c77, c78, c79, c80, c81, c82, c83, c84, c85, c86, c87, c88, c89, c90, c91, c92, c93, c94, c95, c96, c97, c98, c99, c100, c101, c102, c103, c104, c105, c106, c107, c108, c109, c110, c111, c112, c113, c114, c115, c116, c117, c118, c119, c120, c121, c122, c123, c124, c125, c126, c127, c128, c129, c130, c131, c132, c133, c134, c135, c136, c137, c138, c139, c140, c141, c142, c143, c144, c145, c146, c147, c148, c149, c150, c151, c152, c153], []⟩ w := by
  show Code.wp _ (Code.seq _ _) _ _ _
  have HX := hide' hx
  have HS := hide' hS
  have HK := hide' hK
  have HB := hide' hB
  have HN := hide' hnil
  have H1 := hide' h1
  have H3 := hide' h3
  clear hx hS hK hB h1 h3 hnil
  refine seq_hid fun K1 HK1 => ?_
  go_wp2_with fail
  refine HK1.out _ _ ?_
  clear HK1
  have E1 : AB (w.alloc (.cells #[.int .i64 0, .int .i64 0, .int .i64 0, .int .i64 0, .int .i64 0, .int .i64 0, .int .i64 0, .int .i64 0] 23)) w.heap.size (fun _ => 0) := AB.new w (fun _ => 0)
  have E2 : AB ((w.alloc (.cells #[.int .i64 0, .int .i64 0, .int .i64 0, .int .i64 0, .int .i64 0, .int .i64 0, .int .i64 0, .int .i64 0] 23)).alloc (.cells #[.int .i64 0, .int .i64 0, .int .i64 0, .int .i64 0, .int .i64 0, .int .i64 0, .int .i64 0, .int .i64 0] 23)) (w.alloc (.cells #[.int .i64 0, .int .i64 0, .int .i64 0, .int .i64 0, .int .i64 0, .int .i64 0, .int .i64 0, .int .i64 0] 23)).heap.size (fun _ => 0) := AB.new _ (fun _ => 0)
  have L1 : Below (w.alloc (.cells #[.int .i64 0, .int .i64 0, .int .i64 0, .int .i64 0, .int .i64 0, .int .i64 0, .int .i64 0, .int .i64 0] 23)).heap.size (w.alloc (.cells #[.int .i64 0, .int .i64 0, .int .i64 0, .int .i64 0, .int .i64 0, .int .i64 0, .int .i64 0, .int .i64 0] 23)) ((w.alloc (.cells #[.int .i64 0, .int .i64 0, .int .i64 0, .int .i64 0, .int .i64 0, .int .i64 0, .int .i64 0, .int .i64 0] 23)).alloc (.cells #[.int .i64 0, .int .i64 0, .int .i64 0, .int .i64 0, .int .i64 0, .int .i64 0, .int .i64 0, .int .i64 0] 23)) := (Below.refl _ _).alloc (Nat.le_refl _) _
  have Z : (w.alloc (.cells #[.int .i64 0, .int .i64 0, .int .i64 0, .int .i64 0, .int .i64 0, .int .i64 0, .int .i64 0, .int .i64 0] 23)).heap.size = w.heap.size + 1 := alloc_size _ _
  have L0 : Below w.heap.size w (w.alloc (.cells #[.int .i64 0, .int .i64 0, .int .i64 0, .int .i64 0, .int .i64 0, .int .i64 0, .int .i64 0, .int .i64 0] 23)) := (Below.refl _ _).alloc (Nat.le_refl _) _
  have E1' := E1.old L1
  rw [Z] at E2 L1
  have L := L0.trans (L1.mono (by omega))
  clear E1 L1 L0
  generalize (w.alloc (.cells #[.int .i64 0, .int .i64 0, .int .i64 0, .int .i64 0, .int .i64 0, .int .i64 0, .int .i64 0, .int .i64 0] 23)).alloc (.cells #[.int .i64 0, .int .i64 0, .int .i64 0, .int .i64 0, .int .i64 0, .int .i64 0, .int .i64 0, .int .i64 0] 23) = w2 at E1' E2 L ⊢
  clear Z
  have F1 := hide' E1'
  have F2 := hide' E2
  have HL := hide' L
  clear E1' E2 L
  refine seq_hid fun K2 HK2 => ?_
  go_wp2_with fail
  go_loopw [10] (fun i wr => ∃ q : Nat, q ≤ 4 ∧ i = .int .i64 q ∧ AB wr w.heap.size (upz f (fun q => acc (fun j => lane (xs j) q) n) q) ∧ AB wr (w.heap.size + 1) (upz g (fun q => acc (fun j => lane (tr (xs j)) q) n) q) ∧ Below w.heap.size w wr) (fun i _ => 4 - (intOf i).toNat)
  case atStart => exact ⟨0, Nat.zero_le _, rfl, F1.out.congr fun i _ => (upz_zero _ _ _).symm, F2.out.congr fun i _ => (upz_zero _ _ _).symm, HL.out⟩
  case round =>
    obtain ⟨q, hq, rfl, e1, e2, hbel⟩ := hrel
    replace e1 := hide' e1
    replace e2 := hide' e2
    replace hbel := hide' hbel
    by_cases hlt : q < 4
    · have hlt' : (q : Int) < 4 := by omega
      go_wp2_with fail
      go_loop [11, 12, 13] (fun r s i => ∃ k : Nat, k ≤ n ∧ i = .int .i64 k ∧ r = .int .u64 ((acc (fun j => lane (xs j) q) k : Nat) : Int) ∧ s = .int .u64 ((acc (fun j => lane (tr (xs j)) q) k : Nat) : Int)) (fun _ _ i => n - (intOf i).toNat)
      case atStart => exact ⟨0, Nat.zero_le _, rfl, rfl, rfl⟩
      case round =>
        obtain ⟨k, hk, rfl, rfl, rfl⟩ := hrel
        by_cases hkn : k < n
        · have hkn' : (k : Int) < (n : Int) := by omega
          obtain ⟨b, off, rfl, hc⟩ : ∃ b off, a = some ⟨b, off, none⟩ ∧ wr.cell? ⟨b, off + k, none⟩ = some (.int .u64 ((xs k : Nat) : Int)) := by
            rcases HS.out.kept hbel.out with h | ⟨b, off, hx, h⟩
            · omega
            · exact ⟨b, off, hx, h k hkn⟩
          have hxk := HX.out k hkn
          have b1 := pc_le (xs k / 256 ^ q % 256)
          have b2 := pc_le (xs k / 256 ^ (q + 4) % 256)
          have b3 := pc_le (tr (xs k) / 256 ^ q % 256)
          have b4 := pc_le (tr (xs k) / 256 ^ (q + 4) % 256)
          have c1 := row_runs (xs k) q hxk (by omega) wr
          have c2 := row_runs (xs k) (q + 4) hxk (by omega) wr
          have c3 := col_runs (xs k) q hxk (by omega) wr
          have c4 := col_runs (xs k) (q + 4) hxk (by omega) wr
          have o1 := lane_or (xs k) q
          have o2 := lane_or (tr (xs k)) q
          have p1 := acc_step (fun j => lane (xs j) q) k
          have p2 := acc_step (fun j => lane (tr (xs j)) q) k
          rw [← o1] at p1
          rw [← o2] at p2
          clear o1 o2 hxk
          generalize pc (xs k / 256 ^ q % 256) = y1 at b1 c1 p1
          generalize pc (xs k / 256 ^ (q + 4) % 256) = y2 at b2 c2 p1
          generalize pc (tr (xs k) / 256 ^ q % 256) = y3 at b3 c3 p2
          generalize pc (tr (xs k) / 256 ^ (q + 4) % 256) = y4 at b4 c4 p2
          generalize xs k = v at hc c1 c2 c3 c4
          replace c1 := hide' c1
          replace c2 := hide' c2
          replace c3 := hide' c3
          replace c4 := hide' c4
          have P1 := hide' p1
          have P2 := hide' p2
          clear p1 p2
          generalize acc (fun j => lane (xs j) q) k = a1 at P1 ⊢
          generalize acc (fun j => lane (tr (xs j)) q) k = a2 at P2 ⊢
          have e4 : Hid ((q : Int) + 4 = ((q + 4 : Nat) : Int)) := hide' (by omega)
          go_wp2_with (first
            | (go_at_call 4; (first | with_reducible refine c1.out.mono ?_ | (rw [e4.out]; with_reducible refine c2.out.mono ?_)); rintro e w' ⟨rfl, rfl⟩)
            | (go_at_call 5; (first | with_reducible refine c3.out.mono ?_ | (rw [e4.out]; with_reducible refine c4.out.mono ?_)); rintro e w' ⟨rfl, rfl⟩))
          go_round
          case rel => exact ⟨k + 1, by omega, by simp, congrArg (Value.int .u64) P1.out, congrArg (Value.int .u64) P2.out⟩
          case measure => simp [intOf]; omega
        · obtain rfl : k = n := by omega
          have r1 := (H1.out.old hbel.out).cell (i := q) (by omega)
          have r2 := (H1.out.old hbel.out).cell (i := q + 4) (by omega)
          have g1 := (H3.out.old hbel.out).cell (i := q) (by omega)
          have g2 := (H3.out.old hbel.out).cell (i := q + 4) (by omega)
          have n1 := H1.out.lt
          have n3 := H3.out.lt
          have n1' : bR ≠ w.heap.size := by omega
          have n1'' : bR ≠ w.heap.size + 1 := by omega
          have n3' : bC ≠ w.heap.size := by omega
          have n3'' : bC ≠ w.heap.size + 1 := by omega
          have x1 := e1.out.cell (i := q) (by omega)
          have x2 := e1.out.cell (i := q + 4) (by omega)
          have x3 := e2.out.cell (i := q) (by omega)
          have x4 := e2.out.cell (i := q + 4) (by omega)
          have y1 := e1.out.fro q
          have y2 := e1.out.fro (q + 4)
          have y3 := e2.out.fro q
          have y4 := e2.out.fro (q + 4)
          generalize upz f (fun q => acc (fun j => lane (xs j) q) k) q q = z1 at x1
          generalize upz f (fun q => acc (fun j => lane (xs j) q) k) q (q + 4) = z2 at x2
          generalize upz g (fun q => acc (fun j => lane (tr (xs j)) q) k) q q = z3 at x3
          generalize upz g (fun q => acc (fun j => lane (tr (xs j)) q) k) q (q + 4) = z4 at x4
          have A1 := acc_lt (fun j => lane (xs j) q) k
          have A2 := acc_lt (fun j => lane (tr (xs j)) q) k
          generalize ha1 : acc (fun j => lane (xs j) q) k = a1 at A1 ⊢
          generalize ha2 : acc (fun j => lane (tr (xs j)) q) k = a2 at A2 ⊢
          replace ha1 := hide' ha1
          replace ha2 := hide' ha2
          have l1 := low32 a1 A1
          have l2 := low32 a2 A2
          go_wp2_with fail
          have h1 := ha1.out
          have h2 := ha2.out
          subst h1 h2
          clear l1 l2 x1 x2 x3 x4 y1 y2 y3 y4 r1 r2 g1 g2
          go_roundw
          case rel =>
            refine ⟨q + 1, by omega, by simp, ?_, ?_, ?_⟩
            · exact ((((e1.out.set (t := q) (by omega) _).set (t := q + 4) (by omega) _).after (b' := w.heap.size + 1) (by omega) _ _).after (b' := w.heap.size + 1) (by omega) _ _).congr fun i hi => upz_step f (fun q => acc (fun j => lane (xs j) q) k) q i hlt hi
            · exact ((((e2.out.after (b' := w.heap.size) (by omega) _ _).after (b' := w.heap.size) (by omega) _ _).set (t := q) (by omega) _).set (t := q + 4) (by omega) _).congr fun i hi => upz_step g (fun q => acc (fun j => lane (tr (xs j)) q) k) q i hlt hi
            · exact (((hbel.out.setCell (p := ⟨w.heap.size, q, none⟩) (Nat.le_refl w.heap.size) _).setCell (p := ⟨w.heap.size, q + 4, none⟩) (Nat.le_refl w.heap.size) _).setCell (p := ⟨w.heap.size + 1, q, none⟩) (Nat.le_succ w.heap.size) _).setCell (p := ⟨w.heap.size + 1, q + 4, none⟩) (Nat.le_succ w.heap.size) _
          case measure => simp [intOf]; omega
    · obtain rfl : q = 4 := by omega
      go_wp2_with fail
      exact HK2.out _ _ (t6 w0 wr hn HX.out (HS.out.kept hbel.out) (HK.out.kept hbel.out) HN.out (H1.out.old hbel.out) (e1.out.congr fun i _ => upz_four _ _ i) (H3.out.old hbel.out) (e2.out.congr fun i _ => upz_four _ _ i) (HB.out.trans (hbel.out.mono HB.out.size)))
end Go.Proofs.Ybulkdvyw
