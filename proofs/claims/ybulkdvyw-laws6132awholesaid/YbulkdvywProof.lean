import Derived.Test.YbulkdvywS9
import Derived.ProofKit
import Derived.OpenShut
import Derived.ChangeOld
import Derived.SizedLaws
import Derived.Deep.Slices
namespace Go.Proofs.Ybulkdvyw
open Go.ChangeShapes Go.WideShapes Go.ChangeAt Go.RowKit Go.Deep

theorem own : ownKnob Yba.prog.godebug = none := by kernel_rfl
theorem laidOut : laidOutB Yba.prog = true := by kernel_rfl

section
variable {H : Type} {enc : TypeId × Value → H} {w : World}

theorem plain_addr {w : World} {a : Addr} {v : Value} (h : w.cell? (a.add 0) = some v) : ∃ b off, a = ⟨b, off, none⟩ := by
  obtain ⟨b, off, spot⟩ := a
  have hspot : spot = none := by simpa [Addr.add] using World.cell?_spot h
  exact ⟨b, off, by rw [hspot]⟩

/-- A slice of one-cell elements, opened: each element's cell, by a function. -/
theorem open_row {fuel : Nat} {t e : TypeId} {α : Type} [Inhabited α] {mk : α → Value} {ok : α → Prop} {v : Value} {x : DataW H × List MemPlace} (ht : Yba.prog.underlying t = some (.slice e)) (hc : Yba.prog.cellsOf e = 1)
    (he : ∀ (n : Nat) (u : Value) (y : DataW H × List MemPlace), DataW.trod enc Yba.prog w 0 (fun _ => true) true n e [u] = some y → ∃ z : α, u = mk z ∧ ok z)
    (h : DataW.trod enc Yba.prog w 0 (fun _ => true) true fuel t [v] = some x) :
    ∃ a len cap, v = .slice a len cap ∧ (a = none → len = 0 ∧ cap = 0) ∧ (∃ f : Nat → α, (CA w a len fun j => mk (f j)) ∧ ∀ j, j < len → ok (f j)) ∧ ((len = 0 ∧ x.1 = .nil) ∨ ∃ el sp, x.1 = .slice el sp ∧ el.length = len) := by
  rcases open_slice1 ht hc h with ⟨h1, rfl⟩ | ⟨a, len, cap, m, n, V, D, Pl, h1, _, hl, _, hm, rfl, hel⟩
  · simp only [List.cons.injEq, and_true] at h1
    exact ⟨none, 0, 0, h1, fun _ => ⟨rfl, rfl⟩, ⟨fun _ => default, .inl rfl, fun j hj => by omega⟩, .inl ⟨rfl, rfl⟩⟩
  · simp only [List.cons.injEq, and_true] at h1
    simp only [if_true] at hm
    subst hm
    refine ⟨some a, len, m, h1, fun h => by simp at h, ?_, .inr ⟨_, _, rfl, by simp⟩⟩
    obtain ⟨f, hf⟩ := choose_lt (n := len) (p := fun i (z : α) => V i = mk z ∧ ok z) (fun i hi => he n (V i) _ (hel i (by omega)).2)
    refine ⟨f, ?_, fun j hj => (hf j hj).2⟩
    by_cases h0 : len = 0
    · exact .inl h0
    obtain ⟨b, off, rfl⟩ := plain_addr (hel 0 (by omega)).1
    refine .inr ⟨b, off, rfl, fun j hj => ?_⟩
    rw [← add_plain, (hel j (by omega)).1, (hf j hj).1]

theorem u64_ok {n : Nat} {u : Value} {y : DataW H × List MemPlace} (h : DataW.trod enc Yba.prog w 0 (fun _ => true) true n 24 [u] = some y) : ∃ z : Nat, u = .int .u64 (z : Int) ∧ z < 18446744073709551616 := by
  obtain ⟨z, h1, _, hw⟩ := DataW.trod_int Yba.underlying24 h
  simp only [List.cons.injEq, and_true] at h1
  simp [Lit.wf, IntKind.min, IntKind.max, IntKind.signed, IntKind.bits] at hw
  refine ⟨z.toNat, ?_, by omega⟩
  rw [h1]
  congr 1
  omega

theorem small_of {n B : Nat} {d : DataW H} (hd : (n = 0 ∧ d = .nil) ∨ ∃ el sp, d = .slice el sp ∧ el.length = n) (h : ∀ el sp, d = .slice el sp → (el.length + sp.length) * B ≤ reachBytes) (hB : 0 < B) : n ≤ 140737488355328 := by
  rcases hd with ⟨h0, _⟩ | ⟨el, sp, hd, hl⟩
  · omega
  · have h1 := h el sp hd
    have h2 : el.length + sp.length ≤ (el.length + sp.length) * B := Nat.le_mul_of_pos_right _ hB
    have h3 := reachBytes_lt
    omega

theorem list8 {l : List Value} (h : l.length = 8) : ∃ c0 c1 c2 c3 c4 c5 c6 c7, l = [c0, c1, c2, c3, c4, c5, c6, c7] := by
  match l, h with
  | [c0, c1, c2, c3, c4, c5, c6, c7], _ => exact ⟨c0, c1, c2, c3, c4, c5, c6, c7, rfl⟩

/-- An array parameter, opened: its eight numbers, by a function. -/
theorem open_arr {r : Reach} {b0 : Nat} {v : Value} {d : DataW H} {p : List MemPlace} (hv : Value.okWide Yba.prog w r b0 23 v) (h : DataW.Trod enc Yba.prog w 0 (fun _ => true) true 23 v d p) : ∃ g : Nat → Int, v = .agg #[.int .i64 (g 0), .int .i64 (g 1), .int .i64 (g 2), .int .i64 (g 3), .int .i64 (g 4), .int .i64 (g 5), .int .i64 (g 6), .int .i64 (g 7)] := by
  obtain ⟨cs, rfl, hsz⟩ : ∃ cs, v = .agg cs ∧ cs.size = Yba.prog.cellsOf 23 := by
    simp only [Value.okWide, Yba.underlying23] at hv
    obtain ⟨cs, h1, h2, _⟩ := hv
    exact ⟨cs, h1, h2⟩
  have h8 : Yba.prog.cellsOf 23 = 8 := by kernel_rfl
  have h2 : Yba.prog.cellsOf 2 = 1 := by kernel_rfl
  obtain ⟨c0, c1, c2, c3, c4, c5, c6, c7, hcs⟩ := list8 (l := cs.toList) (by simpa [h8] using hsz)
  obtain rfl : cs = #[c0, c1, c2, c3, c4, c5, c6, c7] := by apply Array.ext'; simpa using hcs
  obtain ⟨fuel, hf⟩ := h
  simp only [Value.cells] at hf
  obtain ⟨zs, m, _, _, _, hl2, ha⟩ := DataW.trod_array Yba.underlying23 hf
  have each : ∀ i, i < 8 → ∃ z : Int, [c0, c1, c2, c3, c4, c5, c6, c7][i]? = some (.int .i64 z) := by
    intro i hi
    have a0 := ha i hi
    rw [h2, Nat.mul_one, List.getElem?_eq_getElem (by omega)] at a0
    obtain ⟨z, q, _, _⟩ := DataW.trod_int Yba.underlying2 a0
    refine ⟨z, ?_⟩
    have q' := congrArg (fun l => l[0]?) q
    simpa using q'
  obtain ⟨g, hg⟩ := choose_lt each
  refine ⟨g, ?_⟩
  have g0 := hg 0 (by decide)
  have g1 := hg 1 (by decide)
  have g2 := hg 2 (by decide)
  have g3 := hg 3 (by decide)
  have g4 := hg 4 (by decide)
  have g5 := hg 5 (by decide)
  have g6 := hg 6 (by decide)
  have g7 := hg 7 (by decide)
  simp at g0 g1 g2 g3 g4 g5 g6 g7
  rw [g0, g1, g2, g3, g4, g5, g6, g7]
end

set_option maxRecDepth 100000 in
set_option maxHeartbeats 1000000 in
theorem lifted (os : Os) (started : os.Started) (H : Type) (enc : TypeId × Value → H) :
    ReturnsInHanded {} Yba.checked os 3 .any (Rows.lawS6132AWholeSpec.pre6 enc Yba.prog Yba.f3 Rows.lawS6132AWholeRow.domain false) (Rows.lawS6132AWholeSpec.post enc Yba.prog Yba.f3 false true false false) := by
  refine returnsInHanded_of_change_sized (C := Yba.checked) own started (by kernel_rfl) Yba.func3
    (ChangeSpec.witness6 (enc := enc) (C := Yba.checked) false ⟨#[], #[.slice none 0 0, .agg #[.int .i64 0, .int .i64 0, .int .i64 0, .int .i64 0, .int .i64 0, .int .i64 0, .int .i64 0, .int .i64 0], .agg #[.int .i64 0, .int .i64 0, .int .i64 0, .int .i64 0, .int .i64 0, .int .i64 0, .int .i64 0, .int .i64 0]], []⟩ 8 (by kernel_rfl) (by kernel_rfl) (by kernel_rfl) (by kernel_rfl)) ?_
  intro W base args ds gs before hval0 hW hcnd hsz0 _
  have hval : ∀ (j : Nat) t v, Yba.f3.params[j]? = some t → args[j]? = some v → Value.okWide Yba.prog W .any base t v := hval0
  have hsz : (DataW.weightsEach Yba.prog (Yba.f3.params.toList ++ Rows.lawS6132AWholeSpec.plain.varTypes Yba.prog) (ds ++ gs)).all (· ≤ reachBytes) = true := hsz0
  have hW' := hW
  obtain ⟨p, q, hA0, hV, rfl, hfz, hnd⟩ := hW
  have hA : DataW.TrodAll enc Yba.prog W 0 (fun _ => true) true Yba.f3.params.toList args.toList ds p := hA0
  rw [Yba.params3] at hA hval hsz
  obtain ⟨v0, vs0, d0, ds0, p0, q0, hargs, rfl, rfl, h0, r0⟩ := trodAll_cons hA
  obtain ⟨v1, vs1, d1, ds1, p1, q1, rfl, rfl, rfl, h1, r1⟩ := trodAll_cons r0
  obtain ⟨v2, vs2, d2, ds2, p2, q2, rfl, rfl, rfl, h2, r2⟩ := trodAll_cons r1
  obtain ⟨rfl, rfl, rfl⟩ := trodAll_nil r2
  obtain rfl : args = #[v0, v1, v2] := by cases args; simp_all
  obtain ⟨rfl, rfl⟩ := trodVars_none hV
  have k0 := h0
  have k1 := h1
  have k2 := h2
  have lt0 : ∀ x ∈ p0, x.block < W.heap.size := by obtain ⟨m, hm⟩ := k0; exact DataW.trod_lt m _ _ _ hm
  have lt1 : ∀ x ∈ p1, x.block < W.heap.size := by obtain ⟨m, hm⟩ := k1; exact DataW.trod_lt m _ _ _ hm
  have lt2 : ∀ x ∈ p2, x.block < W.heap.size := by obtain ⟨m, hm⟩ := k2; exact DataW.trod_lt m _ _ _ hm
  have one0 : v0.cells.toList = [v0] := by obtain ⟨a, l, c, rfl⟩ := okWide_slice Yba.underlying22 (hval 0 22 v0 rfl rfl); rfl
  obtain ⟨g, e1⟩ := open_arr (hval 1 23 v1 rfl rfl) h1
  obtain ⟨f, e2⟩ := open_arr (hval 2 23 v2 rfl rfl) h2
  obtain ⟨f0, t0⟩ := h0
  rw [one0] at t0
  have b24 : Yba.prog.bytesOf 24 = 8 := by kernel_rfl
  obtain ⟨a, n, c, e0, hnil, ⟨xs, hS, hx⟩, hd0⟩ := open_row (mk := fun z : Nat => Value.int .u64 (z : Int)) (ok := fun z => z < 18446744073709551616) Yba.underlying22 (by kernel_rfl) (fun n u y => u64_ok) t0
  have s0 : n ≤ 140737488355328 := small_of (B := 8) hd0 (fun el sp hd => by
    have := sized_slice hsz (j := 0) (t := 22) (e := 24) (elems := el) (spare := sp) rfl (congrArg some hd) Yba.underlying22
    rwa [b24] at this) (by omega)
  clear hA0 hval0 hsz0
  subst e0 e1 e2
  refine (law_runs W s0 hx hS hnil).mono fun e W' ⟨he, bel⟩ => ?_
  subst he
  exact ⟨_, rfl, _, _, _, [], _, [], hW', trodAll_mk1 (shut_bool Yba.underlying4 _),
    (trodAll_cons_mk (Below.trod laidOut (by kernel_rfl) (of_decide_eq_true (by kernel_rfl)) k0 bel lt0) (trodAll_cons_mk (Below.trod laidOut (by kernel_rfl) (of_decide_eq_true (by kernel_rfl)) k1 bel lt1)
    (trodAll_cons_mk (Below.trod laidOut (by kernel_rfl) (of_decide_eq_true (by kernel_rfl)) k2 bel lt2) trodAll_mk0))), rfl, bel.frame _, fun h => by cases h⟩

theorem lawS6132AWhole_proved : Rows.LawS6132AWholeSaid :=
  OpenClaim.holds_of_wide 3 Yba.f3 rfl rfl rfl rfl rfl rfl rfl ⟨rfl, rfl, rfl, rfl, rfl⟩ rfl rfl rfl rfl rfl (by kernel_rfl) Yba.func3 (by kernel_rfl)
    (of_decide_eq_true (by kernel_rfl)) (by unfold Func.isWrapper; first | (rw [if_pos (by decide +kernel)]; kernel_rfl) | (rw [if_neg (by decide +kernel)]; exact ⟨rfl, rfl⟩))
    (fun os started H enc _ => lifted os started H enc)
end Go.Proofs.Ybulkdvyw
