import Derived.Test.YbulkdvyiZ3
namespace Go.Proofs.Ybulkdvyi
open Go.RowKit Go.MuLone

/-- The ten cells of a meta. -/
abbrev mcells (u : ByteArray) (t1 t2 s1 s2 s3 s4 lv : Int) (sv : Value) (ver : Int) : Array Value :=
  #[.string u, .int .i64 t1, .int .i64 t2, .int .u64 s1, .int .u64 s2, .int .u64 s3, .int .u64 s4, .int .i64 lv, sv, .int .i64 ver]

set_option maxHeartbeats 2000000 in
theorem meq (u : ByteArray) (t1 t2 s1 s2 s3 s4 lv ver : Int) {a1 a2 : Option Addr} {n : Nat} {S : Nat → ByteArray} {w : World} (c1 c2 : Nat) (hn : n ≤ 1048576) (hnil : a1.isNone = a2.isNone) (h1 : CA w a1 n fun j => .string (S j)) (h2 : CA w a2 n fun j => .string (S j)) :
    Calls Yba.prog 6 #[.agg (mcells u t1 t2 s1 s2 s3 s4 lv (.slice a1 n c1) ver), .agg (mcells u t1 t2 s1 s2 s3 s4 lv (.slice a2 n c2) ver)] w fun e w' => e = .returned (.bool true) ∧ Below w.heap.size w w' := by
  have heq := fun (a : Option Addr) (l cc : Nat) (w : World) => Lib.run_eql_slice_nil (P := Yba.prog) w 23 9 a l cc 0 0 Yba.underlying23
  have H1 := hide' h1
  have H2 := hide' h2
  clear h1 h2
  obtain ⟨bn, hb1⟩ : ∃ bn, a1.isNone = bn := ⟨_, rfl⟩
  have hb2 : a2.isNone = bn := hnil ▸ hb1
  clear hnil
  go_enter Yba.func6, Yba.ntmps6
  go_wp2_with fail
  refine (eqS c1 c2 hn (H1.out.kept (((Below.refl _ _).alloc (Nat.le_refl _) _).alloc (by simp) _)) (H2.out.kept (((Below.refl _ _).alloc (Nat.le_refl _) _).alloc (by simp) _))).mono ?_
  rintro e w' ⟨rfl, q, rfl⟩
  go_wp2_with fail
  go_ret
  exact ⟨rfl, below_drewN (((Below.refl _ _).alloc (Nat.le_refl _) _).alloc (by simp) _) _⟩

/-- The block: its nine cells. -/
def BB (w : World) (b : Nat) (dir nm : ByteArray) (m : Nat) (st sm : Int) : Prop :=
  w.heap[b]? = some (.cells #[.string dir, .string nm, .pointer (some ⟨m, 0, none⟩), .int .i32 st, .int .u32 sm, .slice none 0 0, .pointer none, .pointer none, .map none] 46 (0, 0))
theorem BB.cell {w : World} {b : Nat} {dir nm : ByteArray} {m : Nat} {st sm : Int} (h : BB w b dir nm m st sm) :
    w.cell? ⟨b, 0, none⟩ = some (.string dir) ∧ w.cell? ⟨b, 1, none⟩ = some (.string nm) ∧ w.cell? ⟨b, 2, none⟩ = some (.pointer (some ⟨m, 0, none⟩)) ∧ w.cell? ⟨b, 3, none⟩ = some (.int .i32 st) ∧ w.cell? ⟨b, 5, none⟩ = some (.slice none 0 0) ∧ w.cell? ⟨b, 6, none⟩ = some (.pointer none) ∧ w.cell? ⟨b, 7, none⟩ = some (.pointer none) ∧ w.cell? ⟨b, 8, none⟩ = some (.map none) ∧ w.frozen? ⟨b, 3, none⟩ = false := by
  unfold BB at h
  refine ⟨?_, ?_, ?_, ?_, ?_, ?_, ?_, ?_, ?_⟩ <;> simp [World.cell?, World.frozen?, h]
theorem BB.set {w : World} {b : Nat} {dir nm : ByteArray} {m : Nat} {st sm : Int} (h : BB w b dir nm m st sm) (x : Int) : BB (w.setCell ⟨b, 3, none⟩ (.int .i32 x)) b dir nm m x sm := by
  unfold BB at h ⊢
  simp [World.setCell, Array.getElem?_modify, h]
/-- A meta in memory. -/
def MB (w : World) (m : Nat) (cs : Array Value) : Prop := w.heap[m]? = some (.cells cs 31 (0, 0))
theorem MB.cell {w : World} {m : Nat} {u : ByteArray} {t1 t2 s1 s2 s3 s4 lv ver : Int} {sv : Value} (h : MB w m (mcells u t1 t2 s1 s2 s3 s4 lv sv ver)) :
    w.cell? ⟨m, 0, none⟩ = some (.string u) ∧ w.cell? ⟨m, 1, none⟩ = some (.int .i64 t1) ∧ w.cell? ⟨m, 2, none⟩ = some (.int .i64 t2) ∧ w.cell? ⟨m, 3, none⟩ = some (.int .u64 s1) ∧ w.cell? ⟨m, 4, none⟩ = some (.int .u64 s2) ∧ w.cell? ⟨m, 5, none⟩ = some (.int .u64 s3) ∧ w.cell? ⟨m, 6, none⟩ = some (.int .u64 s4) ∧ w.cell? ⟨m, 7, none⟩ = some (.int .i64 lv) ∧ w.cell? ⟨m, 8, none⟩ = some sv ∧ w.cell? ⟨m, 9, none⟩ = some (.int .i64 ver) := by
  unfold MB at h
  refine ⟨?_, ?_, ?_, ?_, ?_, ?_, ?_, ?_, ?_, ?_⟩ <;> simp [World.cell?, h]

set_option maxHeartbeats 2000000 in
theorem current_any {b m : Nat} {dir nm : ByteArray} {sm : Int} {u : ByteArray} {t1 t2 s1 s2 s3 s4 lv ver : Int} {sv : Value} {a : Option Addr} {n c : Nat} (hsv : sv = .slice a n c) {w : World} (hb : BB w b dir nm m 0 sm) (hm : MB w m (mcells u t1 t2 s1 s2 s3 s4 lv sv ver)) (hbm : m ≠ b) :
    Calls Yba.prog 5 #[.pointer (some ⟨b, 0, none⟩)] w fun e w' => e = .returned (.agg (mcells u t1 t2 s1 s2 s3 s4 lv sv ver)) ∧ BB w' b dir nm m 0 sm ∧ w.grownBy w' (some b) := by
  subst hsv
  obtain ⟨c0, c1, c2, c3, -, -, -, -, f3⟩ := hb.cell
  obtain ⟨m0, m1, m2, m3, m4, m5, m6, m7, m8, m9⟩ := hm.cell
  have hbw : b < w.heap.size := (Array.getElem?_eq_some_iff.1 hb).1
  have hmw : m < w.heap.size := (Array.getElem?_eq_some_iff.1 hm).1
  have HBB := hide' hb
  clear hb hm
  have hmb : ¬ b = m := fun h => hbm h.symm
  go_enter_defers Yba.func5, Yba.ntmps5
  go_wp2_with fail
  refine (lock_free muLib ⟨b, 3, none⟩ _ ((World.cell?_alloc_past _ _ _ hbw).trans c3) ((World.frozen?_alloc_past _ _ _ hbw).trans f3)).mono ?_
  rintro e w' ⟨rfl, rfl⟩
  go_wp2_with fail
  have hbs : b < (w.setCell ⟨b, 3, none⟩ (.int .i32 1)).heap.size := by simpa [World.setCell] using hbw
  refine leaves_cons (f := 8) (args := #[.pointer (some ⟨b, 3, none⟩)]) (by simp) (by simp [go_sem]) ?_
  refine (unlock_deferred muLib ⟨b, 3, none⟩ .returning _ ?_ ?_).mono ?_
  · exact (World.cell?_alloc_past _ _ _ hbs).trans (World.cell?_setCell_same w ⟨b, 3, none⟩ (.int .i32 1) c3)
  · rw [World.frozen?_alloc_past _ _ _ hbs]; simp [f3]
  rintro e u' w'' ⟨rfl, rfl, rfl⟩
  refine ⟨.agg (mcells u t1 t2 s1 s2 s3 s4 lv (.slice a n c) ver), ?_, rfl, ?_, ?_⟩
  · simp [results, Yba.results5, go_sem]
  · have h := (HBB.out.set 1)
    unfold BB at h ⊢
    rw [← Below.heap_alloc _ (.cells (mcells u t1 t2 s1 s2 s3 s4 lv (.slice a n c) ver) 31) b hbs] at h
    exact BB.set h 0
  · refine ⟨rfl, rfl, rfl, by simp [World.setCell], fun k hk hne => ?_⟩
    have hkb : k ≠ b := by simpa using hne
    rw [Below.heap_setCell _ _ _ _ hkb, Below.heap_alloc _ _ _ (by simpa [World.setCell] using hk), Below.heap_setCell _ _ _ _ hkb]
end Go.Proofs.Ybulkdvyi
