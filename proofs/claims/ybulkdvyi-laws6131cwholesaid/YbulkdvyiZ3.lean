import Derived.Test.YbulkdvyiZ2
namespace Go.Proofs.Ybulkdvyi
open Go.RowKit Go.MuLone

/-- A row of strings that a slice leads to; nothing is asked where it is empty. -/
def CA (w : World) (a : Option Addr) (n : Nat) (f : Nat → Value) : Prop :=
  n = 0 ∨ ∃ b off, a = some ⟨b, off, none⟩ ∧ ∀ j, j < n → w.cell? ⟨b, off + j, none⟩ = some (f j)
theorem CA.kept {w w' : World} {a : Option Addr} {n : Nat} {f : Nat → Value} (h : CA w a n f) (hb : Below w.heap.size w w') : CA w' a n f := by
  rcases h with h | ⟨b, off, rfl, hc⟩
  · exact .inl h
  · exact .inr ⟨b, off, rfl, fun j hj => (hb.cell (p := ⟨b, off + j, none⟩) (World.block_lt_of_cell? w _ (hc j hj))).trans (hc j hj)⟩
theorem CA.drewN {w : World} {a : Option Addr} {n : Nat} {f : Nat → Value} (h : CA w a n f) (q : Nat) : CA (w.drewN q) a n f := h
theorem add_plain (b off j : Nat) : (⟨b, off, none⟩ : Addr).add j = ⟨b, off + j, none⟩ := by unfold Addr.add; split <;> simp_all

theorem eqS_zero (a1 a2 : Option Addr) (c1 c2 : Nat) (w : World) :
    Calls Yba.prog 10 #[.slice a1 0 c1, .slice a2 0 c2] w fun e w' => e = .returned (.bool true) ∧ ∃ q, w' = w.drewN q := by
  go_enter Yba.func10, Yba.ntmps10
  go_wp2
  refine wp_loop_rounds 1 ?_
  rw [rounds_succ]
  go_wp2
  go_ret
  exact ⟨rfl, 0, rfl⟩
theorem eqS_some (b1 o1 b2 o2 n c1 c2 : Nat) (S : Nat → ByteArray) (w : World) (hn : n ≤ 1048576) (h1 : ∀ j, j < n → w.cell? ⟨b1, o1 + j, none⟩ = some (.string (S j))) (h2 : ∀ j, j < n → w.cell? ⟨b2, o2 + j, none⟩ = some (.string (S j))) :
    Calls Yba.prog 10 #[.slice (some ⟨b1, o1, none⟩) n c1, .slice (some ⟨b2, o2, none⟩) n c2] w fun e w' => e = .returned (.bool true) ∧ ∃ q, w' = w.drewN q := by
  go_enter Yba.func10, Yba.ntmps10
  go_wp2
  go_loopw [13] (fun i wr => ∃ k q : Nat, k ≤ n ∧ i = .int .i64 k ∧ wr = w.drewN q) (fun i _ => n - (intOf i).toNat)
  case atStart => exact ⟨0, 0, Nat.zero_le _, rfl, rfl⟩
  case round =>
    obtain ⟨k, q, hk, rfl, rfl⟩ := hrel
    by_cases hlt : k < n
    · have g1 := h1 k hlt
      have g2 := h2 k hlt
      generalize S k = bv at g1 g2
      clear h1 h2
      have hlt' : (k : Int) < (n : Int) := by omega
      go_wp2
      go_quiet (fail)
      go_wp2
      go_roundw
      case rel => exact ⟨k + 1, q + nq, by omega, by go_num, by simp [World.drewN]⟩
      case measure => simp [intOf]; omega
    · go_wp2
      go_ret
      exact ⟨rfl, q, rfl⟩
theorem eqS {a1 a2 : Option Addr} {n : Nat} {S : Nat → ByteArray} {w : World} (c1 c2 : Nat) (hn : n ≤ 1048576) (h1 : CA w a1 n fun j => .string (S j)) (h2 : CA w a2 n fun j => .string (S j)) :
    Calls Yba.prog 10 #[.slice a1 n c1, .slice a2 n c2] w fun e w' => e = .returned (.bool true) ∧ ∃ q, w' = w.drewN q := by
  by_cases h0 : n = 0
  · subst h0; exact eqS_zero _ _ _ _ _
  · rcases h1 with h1 | ⟨b1, o1, rfl, h1⟩
    · exact absurd h1 h0
    rcases h2 with h2 | ⟨b2, o2, rfl, h2⟩
    · exact absurd h2 h0
    exact eqS_some b1 o1 b2 o2 n c1 c2 S w hn h1 h2

theorem Yba.info9 : (Yba.prog.info? 9).map (fun i => (i.zero, i.size, i.bytes)) = some (some (.string ByteArray.empty), 1, 16) := by kernel_rfl
theorem cloneS_nil (w : World) : Calls Yba.prog 4 #[.slice none 0 0] w fun e w' => e = .returned (.slice none 0 0) ∧ w' = w := by
  have heq := fun (a : Option Addr) (l cc : Nat) (w : World) => Lib.run_eql_slice_nil (P := Yba.prog) w 23 9 a l cc 0 0 Yba.underlying23
  go_enter Yba.func4, Yba.ntmps4
  go_wp2
  go_ret
  exact ⟨rfl, rfl⟩
theorem cloneS_some (av : Addr) (n c : Nat) (xs : List Value) (w : World) (hn : n ≤ 1048576) (hl : xs.length = n * 1) (hx : ∀ j u, xs[j]? = some u → w.cell? (av.add j) = some u) (h1 : ∀ u ∈ xs, u.oneCell' = true) :
    Calls Yba.prog 4 #[.slice (some av) n c] w fun e w' => ∃ v, e = .returned v ∧ w'.ownsRow w.heap.size 9 1 v n xs ∧ (v ≠ .slice none 0 0) ∧ Below w.heap.size w w' := by
  have heq := fun (a : Option Addr) (l cc : Nat) (w : World) => Lib.run_eql_slice_nil (P := Yba.prog) w 23 9 a l cc 0 0 Yba.underlying23
  obtain ⟨i0, hi, hz0, hz1, hz2⟩ := info_parts Yba.info9
  have HX : Hid (∀ j u, xs[j]? = some u → (w.alloc (.cells #[] 9)).cell? (av.add j) = some u) := fun j u hj => by
    have h := hx j u hj
    exact (((Below.refl w.heap.size w).alloc (Nat.le_refl _) _).cell (World.block_lt_of_cell? w _ h)).trans h
  have H1 := hide' h1
  have HL := hide' hl
  clear hx h1 hl
  go_enter Yba.func4, Yba.ntmps4
  go_wp2_with (at_builtin; refine wpList_append_own _ rfl (.tmp 5) (.tmp 6) 23 rfl w.heap.size 9 i0 _ 1 16 Yba.underlying23 hi hz0 hz1 hz2 rfl (by decide) _ 0 [] rfl (World.ownsRow_made w #[] 0 (Nat.le_refl _) (by simp [maxLen]) rfl) av n c xs rfl HL.out HX.out H1.out (by simp only [maxLen]; omega) (by omega) (by simp) ?_; intro v' w' hown hgrow hnil; have HO := hide' hown; have HG := hide' hgrow; have HNL := hide' hnil; clear hown hgrow hnil)
  go_ret
  exact ⟨_, rfl, by have h := HO.out; simpa using h, fun h => by simpa [Act.eval] using (HNL.out.1 h).1, ((Below.refl _ _).alloc (Nat.le_refl _) _).grown HG.out (by simp) (fun j hj => Nat.le_of_eq (Option.some.inj hj))⟩

theorem own_row {w : World} {base e : Nat} {v : Value} {n : Nat} {f : Nat → Value} (h : w.ownsRow base e 1 v n ((List.range n).map f)) (hv : v ≠ .slice none 0 0) : ∃ g c, v = .slice (some ⟨g, 0, none⟩) n c ∧ base ≤ g ∧ g < w.heap.size ∧ CA w (some ⟨g, 0, none⟩) n f := by
  rcases h.2 with ⟨h', h0⟩ | ⟨g, cap, cur, hv', hb, hh, hnc, _, _, htk⟩
  · exact absurd h' hv
  · refine ⟨g, cap, hv', hb, (Array.getElem?_eq_some_iff.1 hh).1, .inr ⟨g, 0, rfl, fun j hj => ?_⟩⟩
    rw [cell_of_row w g (0 + j) cur e (0, 0) hh, Nat.zero_add]
    have h2 : (cur.toList.take (n * 1))[j]? = some (f j) := by rw [htk]; simp [hj]
    rw [List.getElem?_take, if_pos (by omega)] at h2
    simpa using h2
/-- slices.Clone of a slice of strings. -/
theorem cloneS {a : Option Addr} {n : Nat} {S : Nat → ByteArray} {w : World} (c : Nat) (hn : n ≤ 1048576) (hnil : a = none → n = 0 ∧ c = 0) (h : CA w a n fun j => .string (S j)) :
    Calls Yba.prog 4 #[.slice a n c] w fun e w' => ∃ a' c', e = .returned (.slice a' n c') ∧ a'.isNone = a.isNone ∧ (∀ x, a' = some x → ∃ g, x = ⟨g, 0, none⟩ ∧ g < w'.heap.size) ∧ (CA w' a' n fun j => .string (S j)) ∧ Below w.heap.size w w' := by
  cases a with
  | none =>
    obtain ⟨rfl, rfl⟩ := hnil rfl
    exact (cloneS_nil w).mono fun e w' ⟨h1, h2⟩ => ⟨none, 0, h1, rfl, fun x hx => by simp at hx, .inl rfl, h2 ▸ Below.refl _ _⟩
  | some av =>
    refine (cloneS_some av n c ((List.range n).map fun j => .string (S j)) w hn (by simp) ?_ ?_).mono ?_
    · intro j u hj
      rcases h with h | ⟨b, off, hx, h⟩
      · subst h; simp at hj
      · simp only [Option.some.injEq] at hx
        subst hx
        by_cases hlt : j < n
        · rw [add_plain, h j hlt]; simpa [hlt] using hj
        · simp [hlt] at hj
    · intro u hu
      simp at hu
      obtain ⟨_, _, rfl⟩ := hu
      rfl
    · rintro e w' ⟨v, rfl, hown, hv, hb⟩
      obtain ⟨g, c', rfl, _, hg, how⟩ := own_row hown hv
      exact ⟨some ⟨g, 0, none⟩, c', rfl, rfl, fun x hx => ⟨g, by simpa using hx.symm, hg⟩, how, hb⟩
end Go.Proofs.Ybulkdvyi
