import Derived.Test.YbulkdvyiZ7
namespace Go.Proofs.Ybulkdvyi
open Go.RowKit Go.MuLone

theorem MB.kept {w w' : World} {m : Nat} {cs : Array Value} (h : MB w m cs) (hb : Below w.heap.size w w') : MB w' m cs :=
  (hb.block m (Array.getElem?_eq_some_iff.1 h).1).trans h
theorem CA.grown {w w' : World} {a : Option Addr} {n b : Nat} {f : Nat → Value} (h : CA w a n f) (hg : w.grownBy w' (some b)) (hne : ∀ x, a = some x → x.block ≠ b) : CA w' a n f := by
  rcases h with h | ⟨bb, off, rfl, hc⟩
  · exact .inl h
  · refine .inr ⟨bb, off, rfl, fun j hj => ?_⟩
    have hb : bb ≠ b := hne _ rfl
    exact hg.cell (hc j hj) (by simpa using hb)

set_option maxRecDepth 1000000 in
set_option maxHeartbeats 4000000 in
theorem law (w : World) (dir nm u : ByteArray) (t1 t2 s1 s2 s3 s4 lv ver : Int) {n c : Nat} {a : Option Addr} {S : Nat → ByteArray} (hn : n ≤ 140737488355328) (hnil : a = none → n = 0 ∧ c = 0) (hC : CA w a n fun j => .string (S j)) :
    Calls Yba.prog 3 #[.string dir, .string nm, .string u, .int .i64 t1, .int .i64 t2, .int .u64 s1, .int .u64 s2, .int .u64 s3, .int .u64 s4, .int .i64 lv, .slice a n c, .int .i64 ver] w fun e w' => e = .returned (.bool true) ∧ Below w.heap.size w w' := by
  have HC := hide' hC
  have HN := hide' hnil
  clear hC hnil
  by_cases hbig : 1048576 < n
  · have hbig' : (1048576 : Int) < (n : Int) := by omega
    go_enter Yba.func3, Yba.ntmps3
    go_wp2_with fail
    go_ret
    exact ⟨rfl, Below.refl _ _⟩
  · have hbig' : ¬ (1048576 : Int) < (n : Int) := by omega
    go_enter Yba.func3, Yba.ntmps3
    refine seq_hid fun K1 HK1 => ?_
    go_wp2_with fail
    refine HK1.out _ _ ?_
    clear HK1
    refine seq_hid fun K1 HK1 => ?_
    go_wp2_with fail
    refine HK1.out _ _ ?_
    clear HK1
    refine seq_hid fun K1 HK1 => ?_
    go_wp2_with fail
    refine (cloneS c (by omega) HN.out HC.out).mono ?_
    rintro e w1 ⟨a1, c1, rfl, hn1, hsp1, hc1, hb1⟩
    have HN1 := hide' hn1
    have HSP1 := hide' hsp1
    have HC1 := hide' hc1
    have HB1 := hide' hb1
    clear hn1 hsp1 hc1 hb1
    go_wp2_with fail
    refine HK1.out _ _ ?_
    clear HK1
    refine seq_hid fun K1 HK1 => ?_
    go_wp2_with fail
    refine HK1.out _ _ ?_
    clear HK1
    refine seq_hid fun K1 HK1 => ?_
    obtain ⟨w2, hw2⟩ : ∃ w2, w2 = w1.alloc (.cells (mcells u t1 t2 s1 s2 s3 s4 lv (.slice a1 n c1) ver) 31) := ⟨_, rfl⟩
    rw [← hw2]
    have HW2 : Hid (Below w1.heap.size w1 w2) := by unfold Hid; rw [hw2]; exact (Below.refl _ _).alloc (Nat.le_refl _) _
    have HM : Hid (MB w2 w1.heap.size (mcells u t1 t2 s1 s2 s3 s4 lv (.slice a1 n c1) ver)) := by unfold Hid; rw [hw2]; exact heap_alloc_new w1 _
    have HB2 : Hid (Below w.heap.size w w2) := HB1.out.trans (HW2.out.mono HB1.out.size)
    have HC2 := hide' (HC1.out.kept HW2.out)
    obtain ⟨m, hm⟩ : ∃ m, m = w1.heap.size := ⟨_, rfl⟩
    rw [← hm] at HM ⊢
    have HSZ : Hid (w.heap.size ≤ m ∧ (∀ x, a1 = some x → x.block < m)) := ⟨by have := HB1.out.size; omega, fun x hx => by obtain ⟨g, rfl, hg⟩ := HSP1.out x hx; rw [hm]; exact hg⟩
    clear hw2 hm HW2 HC1
    go_wp2_with fail
    refine (cloneS c (by omega) HN.out (HC.out.kept HB2.out)).mono ?_
    rintro e w3 ⟨a2, c2, rfl, hn2, hsp2, hc2, hb3⟩
    have HN2 := hide' hn2
    have HM3 := hide' (HM.out.kept hb3)
    have HC3 := hide' (HC2.out.kept hb3)
    have HD3 := hide' hc2
    have HSP2 := hide' hsp2
    have HB3 : Hid (Below w.heap.size w w3) := HB2.out.trans (hb3.mono HB2.out.size)
    clear hn2 hsp2 hc2 hb3 HM HC2
    go_wp2_with fail
    refine HK1.out _ _ ?_
    clear HK1
    refine seq_hid fun K1 HK1 => ?_
    go_wp2_with fail
    refine HK1.out _ _ ?_
    clear HK1
    refine seq_hid fun K1 HK1 => ?_
    obtain ⟨w5, hw5⟩ : ∃ w5, w5 = (w3.alloc (.cells (mcells u t1 t2 s1 s2 s3 s4 lv (.slice a2 n c2) ver) 31)).alloc (.cells #[.string dir, .string nm, .pointer (some ⟨m, 0, none⟩), .int .i32 0, .int .u32 0, .slice none 0 0, .pointer none, .pointer none, .map none] 46) := ⟨_, rfl⟩
    rw [← hw5]
    have HL5 : Hid (Below w3.heap.size w3 w5) := by unfold Hid; rw [hw5]; exact ((Below.refl _ _).alloc (Nat.le_refl _) _).alloc (by simp) _
    have HWB : Hid (MB w5 w3.heap.size (mcells u t1 t2 s1 s2 s3 s4 lv (.slice a2 n c2) ver)) := by
      unfold Hid MB; rw [hw5, Below.heap_alloc _ _ _ (by simp)]; exact heap_alloc_new w3 _
    have HBB : Hid (BB w5 (w3.heap.size + 1) dir nm m 0 0) := by
      unfold Hid BB; rw [hw5]
      have h := heap_alloc_new (w3.alloc (.cells (mcells u t1 t2 s1 s2 s3 s4 lv (.slice a2 n c2) ver) 31)) (.cells #[.string dir, .string nm, .pointer (some ⟨m, 0, none⟩), .int .i32 0, .int .u32 0, .slice none 0 0, .pointer none, .pointer none, .map none] 46)
      simpa using h
    clear hw5
    have hm3 : m < w3.heap.size := (Array.getElem?_eq_some_iff.1 HM3.out).1
    go_wp2_with fail
    refine (current_any (sv := .slice a1 n c1) rfl HBB.out (HM3.out.kept HL5.out) (by omega)).mono ?_
    rintro e w6 ⟨rfl, hbb6, hg6⟩
    have HBB6 := hide' hbb6
    have HG6 := hide' hg6
    clear hbb6 hg6
    go_wp2_with fail
    refine HK1.out _ _ ?_
    clear HK1
    have hg := HG6.out
    have hsz5 : w3.heap.size + 1 < w5.heap.size := (Array.getElem?_eq_some_iff.1 HBB.out).1
    have hsz6 : w5.heap.size ≤ w6.heap.size := hg.size
    have hB5 : Below w.heap.size w w5 := HB3.out.trans (HL5.out.mono HB3.out.size)
    have hB6 : Below w.heap.size w w6 := hB5.trans ⟨hg.os, hg.tape, hg.output, hg.size, fun k hk => hg.block k (by have := hB5.size; omega) (by simp; have := HB3.out.size; omega)⟩
    have hM6 : MB w6 m (mcells u t1 t2 s1 s2 s3 s4 lv (.slice a1 n c1) ver) := (hg.block m (by omega) (by simp; omega)).trans (HM3.out.kept HL5.out)
    have hW6 : MB w6 w3.heap.size (mcells u t1 t2 s1 s2 s3 s4 lv (.slice a2 n c2) ver) := (hg.block _ (by omega) (by simp)).trans HWB.out
    have hC6 := (HC3.out.kept HL5.out).grown hg (fun x hx => by have := HSZ.out.2 x hx; omega)
    have hD6 := (HD3.out.kept HL5.out).grown hg (fun x hx => by obtain ⟨g, rfl, hgl⟩ := HSP2.out x hx; show g ≠ _; omega)
    have hk : ∀ o, Below w6.heap.size w6 (w6.alloc o) := fun o => (Below.refl _ _).alloc (Nat.le_refl _) _
    exact tail7 w _ (m := m) (wb := w3.heap.size) (b := w3.heap.size + 1) (gb := w6.heap.size) (a1 := a1) (a2 := a2) (by omega) (by rw [HN1.out, HN2.out]) (fun h => (HN.out (by have := HN1.out; rw [h] at this; simpa using this.symm)).1) (fun x hx => by obtain ⟨g, rfl, _⟩ := HSP1.out x hx; exact ⟨g, rfl⟩)
      (((hk _).block _ (by omega)).trans HBB6.out) (hM6.kept (hk _)) (hW6.kept (hk _)) (heap_alloc_new w6 _) (hC6.kept (hk _)) (hD6.kept (hk _)) (by have := HB3.out.size; omega) (hB6.alloc hB6.size _)
end Go.Proofs.Ybulkdvyi
