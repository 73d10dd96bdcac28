import Derived.Test.YbulkdvxuX3
namespace Go.Proofs.Ybulkdvxu
open Go.RowKit

theorem targets_some (sb tb to tn tc lo ct : Nat) (w : World) (h : w.cell? ⟨sb, 10, none⟩ = some (.slice (some ⟨tb, to, none⟩) tn tc)) (h1 : lo + ct ≤ tn) (h2 : tn ≤ tc) (h4 : tn ≤ 4096) :
    Calls Yba.prog 14 #[.pointer (some ⟨sb, 0, none⟩), .agg #[.int .u8 0, .int .i32 0, .int .i32 ct, .int .i64 lo]] w fun e w' =>
      ∃ a c, e = .returned (.slice a ct c) ∧ (0 < ct → a = some ⟨tb, to + lo, none⟩) ∧ Below w.heap.size w w' := by
  have hsb : sb < w.heap.size := World.block_lt_of_cell? w _ h
  go_enter Yba.func14, Yba.ntmps14
  go_wp2
  go_quiet (fail)
  go_wp2
  all_goals
    go_ret
    refine ⟨_, ⟨_, rfl⟩, fun _ => ?_, below_drewN ((Below.refl _ _).alloc (Nat.le_refl _) _) _⟩
    first | rfl | (exfalso; omega)

theorem targets_nil (sb : Nat) (w : World) (h : w.cell? ⟨sb, 10, none⟩ = some (.slice none 0 0)) :
    Calls Yba.prog 14 #[.pointer (some ⟨sb, 0, none⟩), .agg #[.int .u8 0, .int .i32 0, .int .i32 0, .int .i64 0]] w fun e w' =>
      ∃ a c, e = .returned (.slice a 0 c) ∧ Below w.heap.size w w' := by
  have hsb : sb < w.heap.size := World.block_lt_of_cell? w _ h
  go_enter Yba.func14, Yba.ntmps14
  go_wp2
  go_quiet (fail)
  go_wp2
  go_ret
  exact ⟨_, _, rfl, below_drewN ((Below.refl _ _).alloc (Nat.le_refl _) _) _⟩

theorem targets_any {sb tn tc : Nat} {ta : Option Addr} (lo ct : Nat) {w : World} (h : w.cell? ⟨sb, 10, none⟩ = some (.slice ta tn tc)) (hn : ta = none → tn = 0 ∧ tc = 0) (hs : ∀ x, ta = some x → x.spot = none) (h1 : lo + ct ≤ tn) (h2 : tn ≤ tc) (h4 : tn ≤ 4096) :
    Calls Yba.prog 14 #[.pointer (some ⟨sb, 0, none⟩), .agg #[.int .u8 0, .int .i32 0, .int .i32 ct, .int .i64 lo]] w fun e w' =>
      ∃ a c, e = .returned (.slice a ct c) ∧ (0 < ct → ∃ tb to, ta = some ⟨tb, to, none⟩ ∧ a = some ⟨tb, to + lo, none⟩) ∧ Below w.heap.size w w' := by
  cases ta with
  | none =>
    obtain ⟨rfl, rfl⟩ := hn rfl
    obtain rfl : lo = 0 := by omega
    obtain rfl : ct = 0 := by omega
    exact (targets_nil sb w h).mono fun e w' ⟨a, c, he, hb⟩ => ⟨a, c, he, fun h => by omega, hb⟩
  | some x =>
    obtain ⟨tb, to, sp⟩ := x
    obtain rfl : sp = none := hs _ rfl
    exact (targets_some sb tb to tn tc lo ct w h h1 h2 h4).mono fun e w' ⟨a, c, he, ha, hb⟩ => ⟨a, c, he, fun h => ⟨tb, to, rfl, ha h⟩, hb⟩

theorem waits {sb pn pc tn tc id lo ct : Nat} {pa ta : Option Addr} {w : World} {C F : Nat → Int} (h9 : w.cell? ⟨sb, 9, none⟩ = some (.slice pa pn pc)) (h : w.cell? ⟨sb, 10, none⟩ = some (.slice ta tn tc)) (hP : PA w pa pn C F) (hid : id < pn) (hC : C id = ct) (hF : F id = lo)
    (hn : ta = none → tn = 0 ∧ tc = 0) (hs : ∀ x, ta = some x → x.spot = none) (h1 : lo + ct ≤ tn) (h2 : tn ≤ tc) (h4 : tn ≤ 4096) :
    Calls Yba.prog 13 #[.pointer (some ⟨sb, 0, none⟩), .int .i32 id] w fun e w' =>
      ∃ a c, e = .returned (.slice a ct c) ∧ (0 < ct → ∃ tb to, ta = some ⟨tb, to, none⟩ ∧ a = some ⟨tb, to + lo, none⟩) ∧ Below w.heap.size w w' := by
  obtain ⟨pb, po, rfl, p0, p1, p2, p3⟩ : ∃ b off, pa = some ⟨b, off, none⟩ ∧ w.cell? ⟨b, off + id * 4, none⟩ = some (.int .u8 0) ∧ w.cell? ⟨b, off + id * 4 + 1, none⟩ = some (.int .i32 0) ∧ w.cell? ⟨b, off + id * 4 + 2, none⟩ = some (.int .i32 ct) ∧ w.cell? ⟨b, off + id * 4 + 3, none⟩ = some (.int .i64 lo) := by
    rcases hP with hP | ⟨b, off, hx, hP⟩
    · omega
    · have := hP id hid
      rw [hC, hF] at this
      exact ⟨b, off, hx, this⟩
  have hid' : (id : Int) < (pn : Int) := by omega
  have HH := hide' h
  have HN := hide' hn
  have HS := hide' hs
  clear hP hC hF h hn hs
  go_enter Yba.func13, Yba.ntmps13
  go_wp2_with fail
  refine (targets_any lo ct HH.out HN.out HS.out h1 h2 h4).mono ?_
  rintro e w' ⟨a, c, rfl, hca, hb⟩
  have HC := hide' hca
  have HB := hide' hb
  clear hca hb
  go_wp2_with fail
  go_ret
  exact ⟨_, _, rfl, HC.out, HB.out⟩

/-- A row of the call's own, from block 'base' on. -/
def OW (base e : Nat) (w : World) (a : Option Addr) (n : Nat) (f : Nat → Value) : Prop :=
  n = 0 ∨ ∃ g cur, a = some ⟨g, 0, none⟩ ∧ base ≤ g ∧ w.heap[g]? = some (.cells cur e (0, 0)) ∧ ∀ j, j < n → cur[j]? = some (f j)
theorem OW.ca {base e : Nat} {w : World} {a : Option Addr} {n : Nat} {f : Nat → Value} (h : OW base e w a n f) : CA w a n f := by
  rcases h with h | ⟨g, cur, rfl, _, hh, hc⟩
  · exact .inl h
  · refine .inr ⟨g, 0, rfl, fun j hj => ?_⟩
    rw [cell_of_row w g (0 + j) cur e (0, 0) hh, Nat.zero_add]
    exact hc j hj
theorem own_ow {w : World} {base e : Nat} {v : Value} {n : Nat} {f : Nat → Value} (h : w.ownsRow base e 1 v n ((List.range n).map f)) : ∃ a c, v = .slice a n c ∧ n ≤ c ∧ (a = none → n = 0 ∧ c = 0) ∧ (∀ x, a = some x → x.spot = none) ∧ OW base e w a n f := by
  rcases h.2 with ⟨hv, h0⟩ | ⟨g, cap, cur, hv, hb, hh, hnc, _, _, htk⟩
  · exact ⟨none, 0, by rw [hv, h0], by omega, fun _ => ⟨h0, rfl⟩, fun x hx => by simp at hx, .inl h0⟩
  · refine ⟨some ⟨g, 0, none⟩, cap, hv, hnc, fun h => by simp at h, fun x hx => by simp at hx; rw [← hx], .inr ⟨g, cur, rfl, hb, hh, fun j hj => ?_⟩⟩
    have h2 : (cur.toList.take (n * 1))[j]? = some (f j) := by rw [htk]; simp [hj]
    rw [List.getElem?_take, if_pos (by omega)] at h2
    simpa using h2
theorem OW.set {base e : Nat} {w : World} {g n t : Nat} {cur : Array Value} {f : Nat → Value} (hb : base ≤ g) (hh : w.heap[g]? = some (.cells cur e (0, 0))) (hc : ∀ j, j < n → cur[j]? = some (f j)) (ht : t < n) (v : Value) :
    OW base e (w.setCell ⟨g, t, none⟩ v) (some ⟨g, 0, none⟩) n (fun j => if j = t then v else f j) := by
  refine .inr ⟨g, cur.setIfInBounds t v, rfl, hb, by simp [World.setCell, Array.getElem?_modify, hh], fun j hj => ?_⟩
  have hsz : ∀ i, i < n → i < cur.size := fun i hi => (Array.getElem?_eq_some_iff.1 (hc i hi)).1
  rw [Array.getElem?_setIfInBounds]
  by_cases e : t = j
  · subst e; simp [hsz t ht]
  · rw [if_neg e]
    show _ = some (if j = t then v else f j)
    rw [if_neg (fun (h : j = t) => e h.symm)]
    exact hc j hj

theorem cloneB {a : Option Addr} {n : Nat} {B : Nat → Bool} {w : World} (c : Nat) (hn : n ≤ 1048576) (hnil : a = none → n = 0 ∧ c = 0) (h : CA w a n fun j => .bool (B j)) :
    Calls Yba.prog 4 #[.slice a n c] w fun e w' => ∃ a' c', e = .returned (.slice a' n c') ∧ OW w.heap.size 4 w' a' n (fun j => .bool (B j)) ∧ Below w.heap.size w w' := by
  cases a with
  | none =>
    obtain ⟨rfl, rfl⟩ := hnil rfl
    exact (cloneB_nil w).mono fun e w' ⟨h1, h2⟩ => ⟨none, 0, h1, .inl rfl, h2 ▸ Below.refl _ _⟩
  | some av =>
    refine (cloneB_some av n c ((List.range n).map fun j => .bool (B j)) w hn (by simp) ?_ ?_).mono ?_
    · intro j u hj
      rcases h with h | ⟨b, off, hx, h⟩
      · subst h; simp at hj
      · simp only [Option.some.injEq] at hx
        subst hx
        by_cases hlt : j < n
        · rw [add_plain, h j hlt]; simpa [hlt] using hj
        · simp [hlt] at hj
    · intro u hu
      simp at hu
      obtain ⟨_, _, rfl⟩ := hu
      rfl
    · rintro e w' ⟨v, rfl, hown, hb⟩
      obtain ⟨a', c', rfl, _, _, _, how⟩ := own_ow hown
      exact ⟨a', c', rfl, how, hb⟩
theorem cloneI {a : Option Addr} {n : Nat} {T : Nat → Int} {w : World} (c : Nat) (hn : n ≤ 1048576) (hnil : a = none → n = 0 ∧ c = 0) (h : CA w a n fun j => .int .i32 (T j)) :
    Calls Yba.prog 7 #[.slice a n c] w fun e w' => ∃ a' c', e = .returned (.slice a' n c') ∧ OW w.heap.size 21 w' a' n (fun j => .int .i32 (T j)) ∧ Below w.heap.size w w' := by
  cases a with
  | none =>
    obtain ⟨rfl, rfl⟩ := hnil rfl
    exact (cloneI_nil w).mono fun e w' ⟨h1, h2⟩ => ⟨none, 0, h1, .inl rfl, h2 ▸ Below.refl _ _⟩
  | some av =>
    refine (cloneI_some av n c ((List.range n).map fun j => .int .i32 (T j)) w hn (by simp) ?_ ?_).mono ?_
    · intro j u hj
      rcases h with h | ⟨b, off, hx, h⟩
      · subst h; simp at hj
      · simp only [Option.some.injEq] at hx
        subst hx
        by_cases hlt : j < n
        · rw [add_plain, h j hlt]; simpa [hlt] using hj
        · simp [hlt] at hj
    · intro u hu
      simp at hu
      obtain ⟨_, _, rfl⟩ := hu
      rfl
    · rintro e w' ⟨v, rfl, hown, hb⟩
      obtain ⟨a', c', rfl, _, _, _, how⟩ := own_ow hown
      exact ⟨a', c', rfl, how, hb⟩
end Go.Proofs.Ybulkdvxu
