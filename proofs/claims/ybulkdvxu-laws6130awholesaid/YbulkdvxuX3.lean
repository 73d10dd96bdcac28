import Derived.Test.YbulkdvxuX2
namespace Go.Proofs.Ybulkdvxu
open Go.RowKit

theorem Yba.info4 : (Yba.prog.info? 4).map (fun i => (i.zero, i.size, i.bytes)) = some (some (.bool false), 1, 1) := by kernel_rfl
theorem Yba.info21 : (Yba.prog.info? 21).map (fun i => (i.zero, i.size, i.bytes)) = some (some (.int .i32 0), 1, 4) := by kernel_rfl
theorem Yba.info29 : (Yba.prog.info? 29).map (fun i => (i.zero, i.size, i.bytes)) = some (some (.agg #[.int .u8 0, .int .i32 0, .int .i32 0, .int .i64 0]), 4, 24) := by kernel_rfl
theorem add_plain (b off j : Nat) : (⟨b, off, none⟩ : Addr).add j = ⟨b, off + j, none⟩ := by unfold Addr.add; split <;> simp_all

theorem cloneB_nil (w : World) : Calls Yba.prog 4 #[.slice none 0 0] w fun e w' => e = .returned (.slice none 0 0) ∧ w' = w := by
  have heq := fun (a : Option Addr) (l cc : Nat) (w : World) => Lib.run_eql_slice_nil (P := Yba.prog) w 22 4 a l cc 0 0 Yba.underlying22
  go_enter Yba.func4, Yba.ntmps4
  go_wp2
  go_ret
  exact ⟨rfl, rfl⟩
theorem cloneB_some (av : Addr) (n c : Nat) (xs : List Value) (w : World) (hn : n ≤ 1048576) (hl : xs.length = n * 1) (hx : ∀ j u, xs[j]? = some u → w.cell? (av.add j) = some u) (h1 : ∀ u ∈ xs, u.oneCell' = true) :
    Calls Yba.prog 4 #[.slice (some av) n c] w fun e w' => ∃ v, e = .returned v ∧ w'.ownsRow w.heap.size 4 1 v n xs ∧ Below w.heap.size w w' := by
  have heq := fun (a : Option Addr) (l cc : Nat) (w : World) => Lib.run_eql_slice_nil (P := Yba.prog) w 22 4 a l cc 0 0 Yba.underlying22
  obtain ⟨i0, hi, hz0, hz1, hz2⟩ := info_parts Yba.info4
  have HX : Hid (∀ j u, xs[j]? = some u → (w.alloc (.cells #[] 4)).cell? (av.add j) = some u) := fun j u hj => by
    have h := hx j u hj
    exact (((Below.refl w.heap.size w).alloc (Nat.le_refl _) _).cell (World.block_lt_of_cell? w _ h)).trans h
  have H1 := hide' h1
  have HL := hide' hl
  clear hx h1 hl
  go_enter Yba.func4, Yba.ntmps4
  go_wp2_with (at_builtin; refine wpList_append_own _ rfl (.tmp 5) (.tmp 6) 22 rfl w.heap.size 4 i0 _ 1 1 Yba.underlying22 hi hz0 hz1 hz2 rfl (by decide) _ 0 [] rfl (World.ownsRow_made w #[] 0 (Nat.le_refl _) (by simp [maxLen]) rfl) av n c xs rfl HL.out HX.out H1.out (by simp only [maxLen]; omega) (by omega) (by simp) ?_; intro v' w' hown hgrow _; have HO := hide' hown; have HG := hide' hgrow; clear hown hgrow)
  go_ret
  exact ⟨_, rfl, by have h := HO.out; simpa using h, ((Below.refl _ _).alloc (Nat.le_refl _) _).grown HG.out (by simp) (fun j hj => Nat.le_of_eq (Option.some.inj hj))⟩

theorem cloneI_nil (w : World) : Calls Yba.prog 7 #[.slice none 0 0] w fun e w' => e = .returned (.slice none 0 0) ∧ w' = w := by
  have heq := fun (a : Option Addr) (l cc : Nat) (w : World) => Lib.run_eql_slice_nil (P := Yba.prog) w 24 21 a l cc 0 0 Yba.underlying24
  go_enter Yba.func7, Yba.ntmps7
  go_wp2
  go_ret
  exact ⟨rfl, rfl⟩
theorem cloneI_some (av : Addr) (n c : Nat) (xs : List Value) (w : World) (hn : n ≤ 1048576) (hl : xs.length = n * 1) (hx : ∀ j u, xs[j]? = some u → w.cell? (av.add j) = some u) (h1 : ∀ u ∈ xs, u.oneCell' = true) :
    Calls Yba.prog 7 #[.slice (some av) n c] w fun e w' => ∃ v, e = .returned v ∧ w'.ownsRow w.heap.size 21 1 v n xs ∧ Below w.heap.size w w' := by
  have heq := fun (a : Option Addr) (l cc : Nat) (w : World) => Lib.run_eql_slice_nil (P := Yba.prog) w 24 21 a l cc 0 0 Yba.underlying24
  obtain ⟨i0, hi, hz0, hz1, hz2⟩ := info_parts Yba.info21
  have HX : Hid (∀ j u, xs[j]? = some u → (w.alloc (.cells #[] 21)).cell? (av.add j) = some u) := fun j u hj => by
    have h := hx j u hj
    exact (((Below.refl w.heap.size w).alloc (Nat.le_refl _) _).cell (World.block_lt_of_cell? w _ h)).trans h
  have H1 := hide' h1
  have HL := hide' hl
  clear hx h1 hl
  go_enter Yba.func7, Yba.ntmps7
  go_wp2_with (at_builtin; refine wpList_append_own _ rfl (.tmp 5) (.tmp 6) 24 rfl w.heap.size 21 i0 _ 1 4 Yba.underlying24 hi hz0 hz1 hz2 rfl (by decide) _ 0 [] rfl (World.ownsRow_made w #[] 0 (Nat.le_refl _) (by simp [maxLen]) rfl) av n c xs rfl HL.out HX.out H1.out (by simp only [maxLen]; omega) (by omega) (by simp) ?_; intro v' w' hown hgrow _; have HO := hide' hown; have HG := hide' hgrow; clear hown hgrow)
  go_ret
  exact ⟨_, rfl, by have h := HO.out; simpa using h, ((Below.refl _ _).alloc (Nat.le_refl _) _).grown HG.out (by simp) (fun j hj => Nat.le_of_eq (Option.some.inj hj))⟩

theorem cloneP_nil (w : World) : Calls Yba.prog 6 #[.slice none 0 0] w fun e w' => e = .returned (.slice none 0 0) ∧ w' = w := by
  have heq := fun (a : Option Addr) (l cc : Nat) (w : World) => Lib.run_eql_slice_nil (P := Yba.prog) w 26 29 a l cc 0 0 Yba.underlying26
  go_enter Yba.func6, Yba.ntmps6
  go_wp2
  go_ret
  exact ⟨rfl, rfl⟩
theorem cloneP_some (av : Addr) (n c : Nat) (xs : List Value) (w : World) (hn : n ≤ 1048576) (hl : xs.length = n * 4) (hx : ∀ j u, xs[j]? = some u → w.cell? (av.add j) = some u) (h1 : ∀ u ∈ xs, u.oneCell' = true) :
    Calls Yba.prog 6 #[.slice (some av) n c] w fun e w' => ∃ v, e = .returned v ∧ w'.ownsRow w.heap.size 29 4 v n xs ∧ Below w.heap.size w w' := by
  have heq := fun (a : Option Addr) (l cc : Nat) (w : World) => Lib.run_eql_slice_nil (P := Yba.prog) w 26 29 a l cc 0 0 Yba.underlying26
  obtain ⟨i0, hi, hz0, hz1, hz2⟩ := info_parts Yba.info29
  have HX : Hid (∀ j u, xs[j]? = some u → (w.alloc (.cells #[] 29)).cell? (av.add j) = some u) := fun j u hj => by
    have h := hx j u hj
    exact (((Below.refl w.heap.size w).alloc (Nat.le_refl _) _).cell (World.block_lt_of_cell? w _ h)).trans h
  have H1 := hide' h1
  have HL := hide' hl
  clear hx h1 hl
  go_enter Yba.func6, Yba.ntmps6
  go_wp2_with (at_builtin; refine wpList_append_own _ rfl (.tmp 5) (.tmp 6) 26 rfl w.heap.size 29 i0 _ 4 24 Yba.underlying26 hi hz0 hz1 hz2 rfl (by decide) _ 0 [] rfl (World.ownsRow_made w #[] 0 (Nat.le_refl _) (by simp [maxLen]) rfl) av n c xs rfl HL.out HX.out H1.out (by simp only [maxLen]; omega) (by omega) (by simp) ?_; intro v' w' hown hgrow _; have HO := hide' hown; have HG := hide' hgrow; clear hown hgrow)
  go_ret
  exact ⟨_, rfl, by have h := HO.out; simpa using h, ((Below.refl _ _).alloc (Nat.le_refl _) _).grown HG.out (by simp) (fun j hj => Nat.le_of_eq (Option.some.inj hj))⟩

end Go.Proofs.Ybulkdvxu
