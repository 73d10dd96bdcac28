import Derived.Test.YbulkdvywS8
import Derived.Laws.CopyOwn
namespace Go.Proofs.Ybulkdvyw
open Go.RowKit

theorem Yba.info24 : (Yba.prog.info? 24).map (fun i => (i.zero, i.size, i.bytes)) = some (some (.int .u64 0), 1, 8) := by kernel_rfl
theorem Yba.size24 : (Yba.prog.info? 24).map (·.size) = some 1 := by kernel_rfl
theorem add_plain (b off j : Nat) : (⟨b, off, none⟩ : Addr).add j = ⟨b, off + j, none⟩ := by unfold Addr.add; split <;> simp_all

theorem made_row {w w1 : World} {n : Nat} {xs : List Value} (h : w1.ownsRow w.heap.size 24 1 (.slice (some ⟨w.heap.size, 0, none⟩) n n) n xs) : ∃ cur : List Value, w1.heap[w.heap.size]? = some (.cells cur.toArray 24 (0, 0)) ∧ cur.length = n := by
  rcases h.2 with ⟨h, _⟩ | ⟨g, cap, cur, hv, _, hh, _, _, hs, _⟩
  · simp at h
  · simp only [Value.slice.injEq, Option.some.injEq, Addr.mk.injEq, and_true, true_and] at hv
    obtain ⟨rfl, rfl⟩ := hv
    exact ⟨cur.toList, by simpa using hh, by simpa using hs⟩
theorem src_cells {n : Nat} {w w1 : World} {av : Addr} {xs : Nat → Nat} (hb : Below w.heap.size w w1) (h : CA w (some av) n fun j => .int .u64 ((xs j : Nat) : Int)) : ∀ j v, ((List.range n).map fun j => Value.int .u64 ((xs j : Nat) : Int))[j]? = some v → w1.cell? (av.add j) = some v := by
  intro j v hv
  by_cases hj : j < n
  · rcases h with h | ⟨b, off, hb', hc⟩
    · omega
    · simp only [Option.some.injEq] at hb'
      subst hb'
      have hlt : b < w.heap.size := World.block_lt_of_cell? w _ (hc j hj)
      rw [add_plain, hb.cell (p := ⟨b, off + j, none⟩) hlt, hc j hj]
      simpa [List.getElem?_range hj] using hv
  · simp [hj] at hv
theorem copied_row {g : Nat} {w2 : World} {cur : List Value} {n : Nat} {xs : Nat → Nat} (h : w2.heap[g]? = some (.cells (splice cur 0 ((List.range n).map fun j => Value.int .u64 ((xs j : Nat) : Int))).toArray 24 (0, 0))) : CA w2 (some ⟨g, 0, none⟩) n fun j => .int .u64 ((xs j : Nat) : Int) := by
  refine .inr ⟨g, 0, rfl, fun j hj => ?_⟩
  rw [cell_of_row w2 g (0 + j) _ 24 (0, 0) h]
  simp [splice, hj, List.getElem?_append_left]

set_option maxRecDepth 1000000 in
set_option maxHeartbeats 4000000 in
theorem law_runs (w0 : World) {a : Option Addr} {n c : Nat} {xs : Nat → Nat} {f g : Nat → Int} (hb : n ≤ 140737488355328) (hx : ∀ j, j < n → xs j < 18446744073709551616)
    (hS : CA w0 a n fun j => .int .u64 ((xs j : Nat) : Int)) (hnil : a = none → n = 0 ∧ c = 0) :
    Calls Yba.prog 3 #[.slice a n c, .agg #[.int .i64 (g 0), .int .i64 (g 1), .int .i64 (g 2), .int .i64 (g 3), .int .i64 (g 4), .int .i64 (g 5), .int .i64 (g 6), .int .i64 (g 7)], .agg #[.int .i64 (f 0), .int .i64 (f 1), .int .i64 (f 2), .int .i64 (f 3), .int .i64 (f 4), .int .i64 (f 5), .int .i64 (f 6), .int .i64 (f 7)]] w0 (fun e w' => e = .returned (.bool true) ∧ Below w0.heap.size w0 w') := by
  have HX := hide' hx
  have HS := hide' hS
  have HN := hide' hnil
  clear hx hS hnil
  go_enter Yba.func3, Yba.ntmps3
  refine seq_hid fun K1 HK1 => ?_
  go_wp2_with fail
  refine HK1.out _ _ ?_
  clear HK1
  have E1 := AB.new w0 g
  have E2 := AB.new (w0.alloc (.cells #[.int .i64 (g 0), .int .i64 (g 1), .int .i64 (g 2), .int .i64 (g 3), .int .i64 (g 4), .int .i64 (g 5), .int .i64 (g 6), .int .i64 (g 7)] 23)) f
  have L1 : Below (w0.alloc (.cells #[.int .i64 (g 0), .int .i64 (g 1), .int .i64 (g 2), .int .i64 (g 3), .int .i64 (g 4), .int .i64 (g 5), .int .i64 (g 6), .int .i64 (g 7)] 23)).heap.size (w0.alloc (.cells #[.int .i64 (g 0), .int .i64 (g 1), .int .i64 (g 2), .int .i64 (g 3), .int .i64 (g 4), .int .i64 (g 5), .int .i64 (g 6), .int .i64 (g 7)] 23)) ((w0.alloc (.cells #[.int .i64 (g 0), .int .i64 (g 1), .int .i64 (g 2), .int .i64 (g 3), .int .i64 (g 4), .int .i64 (g 5), .int .i64 (g 6), .int .i64 (g 7)] 23)).alloc (.cells #[.int .i64 (f 0), .int .i64 (f 1), .int .i64 (f 2), .int .i64 (f 3), .int .i64 (f 4), .int .i64 (f 5), .int .i64 (f 6), .int .i64 (f 7)] 23)) := (Below.refl _ _).alloc (Nat.le_refl _) _
  have Z : (w0.alloc (.cells #[.int .i64 (g 0), .int .i64 (g 1), .int .i64 (g 2), .int .i64 (g 3), .int .i64 (g 4), .int .i64 (g 5), .int .i64 (g 6), .int .i64 (g 7)] 23)).heap.size = w0.heap.size + 1 := alloc_size _ _
  have L0 : Below w0.heap.size w0 (w0.alloc (.cells #[.int .i64 (g 0), .int .i64 (g 1), .int .i64 (g 2), .int .i64 (g 3), .int .i64 (g 4), .int .i64 (g 5), .int .i64 (g 6), .int .i64 (g 7)] 23)) := (Below.refl _ _).alloc (Nat.le_refl _) _
  have E1' := E1.old L1
  rw [Z] at E2 L1
  have L := L0.trans (L1.mono (by omega))
  clear E1 L1 L0
  generalize (w0.alloc (.cells #[.int .i64 (g 0), .int .i64 (g 1), .int .i64 (g 2), .int .i64 (g 3), .int .i64 (g 4), .int .i64 (g 5), .int .i64 (g 6), .int .i64 (g 7)] 23)).alloc (.cells #[.int .i64 (f 0), .int .i64 (f 1), .int .i64 (f 2), .int .i64 (f 3), .int .i64 (f 4), .int .i64 (f 5), .int .i64 (f 6), .int .i64 (f 7)] 23) = w at E1' E2 L ⊢
  clear Z
  have F1 := hide' E1'
  have F2 := hide' E2
  have HL := hide' L
  clear E1' E2 L
  refine seq_hid fun K2 HK2 => ?_
  by_cases hbig : n > 1048576
  · have hbig' : (n : Int) > 1048576 := by omega
    go_wp2_with fail
    go_ret
    exact ⟨rfl, HL.out⟩
  have hn : n ≤ 1048576 := by omega
  clear hbig hb
  go_wp2_with fail
  refine HK2.out _ _ ?_
  clear HK2
  refine seq_hid fun K3 HK3 => ?_
  go_wp2_with fail
  refine HK3.out _ _ ?_
  clear HK3
  refine seq_hid fun K4 HK4 => ?_
  have hneq := fun (a : Option Addr) (l cc : Nat) (w : World) => run_neq_slice_nil_any (P := Yba.prog) w 22 24 a l cc 0 0 Yba.underlying22
  cases a with
  | none =>
    obtain ⟨rfl, rfl⟩ := HN.out rfl
    go_wp2_with fail
    exact HK4.out _ _ (t4 w0 w (xs := xs) hn HX.out (.inl rfl) (.inl rfl) rfl F2.out F1.out HL.out)
  | some av =>
    obtain ⟨i0, hi, hz0, hz1, hz2⟩ := info_parts Yba.info24
    have I2 := hide' (HS.out.kept HL.out)
    go_wp2_with (first
      | (at_make; refine wpList_make_full _ rfl (.tmp 26) (.tmp 26) 22 rfl w.heap.size 24 i0 _ 1 Yba.underlying22 hi hz0 hz1 .i64 .i64 n n n rfl rfl rfl rfl (by rw [hz2]; omega) (by simp only [maxLen]; omega) (Nat.le_refl _) ?_; intro w1 hown hgrow; obtain ⟨cur, hrow, hlen⟩ := made_row hown; have hbw := (Below.refl w.heap.size w).grown hgrow (Nat.le_refl _) (by simp); have HR := hide' hrow; have HLn := hide' hlen; have HBW := hide' hbw; clear hown hgrow hrow hlen hbw)
      | (refine wpList_copy_splice rfl (.tmp 28) (.tmp 29) 22 22 rfl 24 Yba.underlying22 Yba.size24 (some ⟨w.heap.size, 0, none⟩) (some av) n n n c rfl rfl w.heap.size 0 cur 24 HR.out ((List.range n).map fun j => Value.int .u64 ((xs j : Nat) : Int)) (by simp) (by intro hpos; exact ⟨rfl, av, rfl, src_cells HBW.out I2.out⟩) (by rw [HLn.out]; simp) (by intro v hv; simp at hv; obtain ⟨_, _, rfl⟩ := hv; rfl) w.heap.size w HBW.out (Nat.le_refl _) ?_; intro w2 HR2 hb2; have HB2 := hide' hb2; clear hb2))
    have hb2 := HB2.out
    exact HK4.out _ _ (t4 w0 w2 hn HX.out (I2.out.kept hb2) (copied_row HR2.out) rfl (F2.out.old hb2) (F1.out.old hb2) (HL.out.trans (hb2.mono HL.out.size)))
end Go.Proofs.Ybulkdvyw
