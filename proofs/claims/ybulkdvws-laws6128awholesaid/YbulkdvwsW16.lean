import Derived.Test.YbulkdvwsW15
namespace Go.Proofs.Ybulkdvws
open Go.RowKit

set_option maxRecDepth 1000000 in
set_option maxHeartbeats 4000000 in
theorem law (w : World) (big : Bool) (pre : Nat) (rn n4 jn c4' rc jc x0 x1 : Nat) (a4 ra ja : Option Addr) (op out alv ar ar2 st sl d0 : Int) (tl : Bool) (ls hs : List Nat) (zs js : List Int)
    (hpre : pre ≤ 65535) (hrn : rn ≤ 140737488355328) (hn4 : n4 ≤ 140737488355328) (hjn : jn ≤ 140737488355328) (hx0 : x0 < 2 ^ 64) (hx1 : x1 < 2 ^ 64) (hls : ∀ j, ls.getD j 0 ≤ 65535) (hhs : ∀ j, hs.getD j 0 ≤ 65535) (hnil : ja = none → jn = 0 ∧ jc = 0) (hnil4 : a4 = none → n4 = 0 ∧ c4' = 0)
    (r2 : RA w.heap.size w ra rn ls hs) (i2 : IA w.heap.size w a4 n4 zs) (i4 : IA w.heap.size w ja jn js) :
    Calls Yba.prog 3 #[.bool big, .int .u16 pre, .int .i64 d0, .bool tl, .slice a4 n4 c4', .int .i64 sl, .int .i64 st, .agg #[.int .u8 op, .int .i64 out, .int .i64 alv, .int .i64 ar, .int .i64 ar2, .slice ra rn rc, .int .u64 x0, .int .u64 x1, .slice ja jn jc]] w fun e w' =>
      e = .returned (.bool true) ∧ Below w.heap.size w w' := by
  have R2 := hide' r2
  have I2 := hide' i2
  have I4 := hide' i4
  have HLS := hide' hls
  have HHS := hide' hhs
  have HN := hide' hnil
  have HN4 := hide' hnil4
  clear r2 i2 i4 hls hhs hnil hnil4
  by_cases hsum : (1048576 : Int) < (n4 : Int) + rn + jn
  · go_enter Yba.func3, Yba.ntmps3
    go_wp2
    go_ret
    exact ⟨rfl, (Below.refl _ _).alloc (Nat.le_refl _) _⟩
  · go_enter Yba.func3, Yba.ntmps3
    refine seq_hid fun K1 HK1 => ?_
    go_wp2_with fail
    refine HK1.out _ _ ?_
    clear HK1
    refine seq_hid fun K2 HK2 => ?_
    go_wp2_with fail
    refine HK2.out _ _ ?_
    clear HK2
    refine seq_hid fun K3 HK3 => ?_
    go_wp2_with fail
    refine HK3.out _ _ ?_
    clear HK3
    refine seq_hid fun K4 HK4 => ?_
    cases big with
    | true =>
      go_wp2_with fail
      refine HK4.out _ _ ?_
      rw [show (16382 + (pre : Int) % 5) = ((16382 + pre % 5 : Nat) : Int) by omega]
      exact t4 w _ w.heap.size (16382 + pre % 5) rn n4 jn c4' rc jc x0 x1 a4 ra ja op out alv ar ar2 st sl d0 tl ls hs zs js (by omega) (by omega) (by omega) (by omega) hx0 hx1 HLS.out HHS.out HN.out HN4.out (heap_alloc_new w _) (R2.out.alloc _) (I2.out.alloc _) (I4.out.alloc _) ((Below.refl _ _).alloc (Nat.le_refl _) _)
    | false =>
      go_wp2_with fail
      refine HK4.out _ _ ?_
      rw [show ((pre : Int) % 64) = ((pre % 64 : Nat) : Int) by omega]
      exact t4 w _ w.heap.size (pre % 64) rn n4 jn c4' rc jc x0 x1 a4 ra ja op out alv ar ar2 st sl d0 tl ls hs zs js (by omega) (by omega) (by omega) (by omega) hx0 hx1 HLS.out HHS.out HN.out HN4.out (heap_alloc_new w _) (R2.out.alloc _) (I2.out.alloc _) (I4.out.alloc _) ((Below.refl _ _).alloc (Nat.le_refl _) _)
end Go.Proofs.Ybulkdvws
