import Derived.Test.YbulkdvxuX10
import Derived.ProofKit
import Derived.OpenShut
import Derived.ChangeOld
import Derived.SizedLaws
import Derived.Deep.Slices
namespace Go.Proofs.Ybulkdvxu
open Go.ChangeShapes Go.WideShapes Go.ChangeAt Go.RowKit Go.Deep

theorem own : ownKnob Yba.prog.godebug = none := by kernel_rfl
theorem laidOut : laidOutB Yba.prog = true := by kernel_rfl

theorem weights_in {H : Type} {P : Program} {e : TypeId} : ∀ {l : List (DataW H)} {d : DataW H}, d ∈ l → ∀ n ∈ d.weights P e, n ∈ DataW.weightsAll P e l
  | d' :: r, d, hd, n, hn => by
    simp only [DataW.weightsAll, List.mem_append]
    rcases List.mem_cons.1 hd with rfl | h
    · exact Or.inl hn
    · exact Or.inr (weights_in h n hn)

section
variable {H : Type} {enc : TypeId × Value → H} {w : World}

theorem plain_addr {w : World} {a : Addr} {v : Value} (h : w.cell? (a.add 0) = some v) : ∃ b off, a = ⟨b, off, none⟩ := by
  obtain ⟨b, off, spot⟩ := a
  have hspot : spot = none := by simpa [Addr.add] using World.cell?_spot h
  exact ⟨b, off, by rw [hspot]⟩

/-- A slice of one-cell elements, opened: each element's cell, by a function. -/
theorem open_row {fuel : Nat} {t e : TypeId} {α : Type} [Inhabited α] {mk : α → Value} {ok : α → Prop} {v : Value} {x : DataW H × List MemPlace} (ht : Yba.prog.underlying t = some (.slice e)) (hc : Yba.prog.cellsOf e = 1)
    (he : ∀ (n : Nat) (u : Value) (y : DataW H × List MemPlace), DataW.trod enc Yba.prog w 0 (fun _ => true) true n e [u] = some y → ∃ z : α, u = mk z ∧ ok z)
    (h : DataW.trod enc Yba.prog w 0 (fun _ => true) true fuel t [v] = some x) :
    ∃ a len cap, v = .slice a len cap ∧ (a = none → len = 0 ∧ cap = 0) ∧ (∃ f : Nat → α, (CA w a len fun j => mk (f j)) ∧ ∀ j, j < len → ok (f j)) ∧ ((len = 0 ∧ x.1 = .nil) ∨ ∃ el sp, x.1 = .slice el sp ∧ el.length = len) := by
  rcases open_slice1 ht hc h with ⟨h1, rfl⟩ | ⟨a, len, cap, m, n, V, D, Pl, h1, _, hl, _, hm, rfl, hel⟩
  · simp only [List.cons.injEq, and_true] at h1
    exact ⟨none, 0, 0, h1, fun _ => ⟨rfl, rfl⟩, ⟨fun _ => default, .inl rfl, fun j hj => by omega⟩, .inl ⟨rfl, rfl⟩⟩
  · simp only [List.cons.injEq, and_true] at h1
    simp only [if_true] at hm
    subst hm
    refine ⟨some a, len, m, h1, fun h => by simp at h, ?_, .inr ⟨_, _, rfl, by simp⟩⟩
    obtain ⟨f, hf⟩ := choose_lt (n := len) (p := fun i (z : α) => V i = mk z ∧ ok z) (fun i hi => he n (V i) _ (hel i (by omega)).2)
    refine ⟨f, ?_, fun j hj => (hf j hj).2⟩
    by_cases h0 : len = 0
    · exact .inl h0
    obtain ⟨b, off, rfl⟩ := plain_addr (hel 0 (by omega)).1
    refine .inr ⟨b, off, rfl, fun j hj => ?_⟩
    rw [← add_plain, (hel j (by omega)).1, (hf j hj).1]

theorem i32_ok {n : Nat} {u : Value} {y : DataW H × List MemPlace} (h : DataW.trod enc Yba.prog w 0 (fun _ => true) true n 21 [u] = some y) : ∃ z : Int, u = .int .i32 z ∧ (-2147483648 ≤ z ∧ z ≤ 2147483647) := by
  obtain ⟨z, h1, _, hw⟩ := DataW.trod_int Yba.underlying21 h
  simp only [List.cons.injEq, and_true] at h1
  simp [Lit.wf, IntKind.min, IntKind.max, IntKind.signed, IntKind.bits] at hw
  exact ⟨z, h1, by omega, by omega⟩
theorem bool_ok {n : Nat} {u : Value} {y : DataW H × List MemPlace} (h : DataW.trod enc Yba.prog w 0 (fun _ => true) true n 4 [u] = some y) : ∃ z : Bool, u = .bool z ∧ True := by
  obtain ⟨z, h1, _⟩ := DataW.trod_bool Yba.underlying4 h
  simp only [List.cons.injEq, and_true] at h1
  exact ⟨z, h1, trivial⟩

theorem small_of {n B : Nat} {d : DataW H} (hd : (n = 0 ∧ d = .nil) ∨ ∃ el sp, d = .slice el sp ∧ el.length = n) (h : ∀ el sp, d = .slice el sp → (el.length + sp.length) * B ≤ reachBytes) (hB : 0 < B) : n ≤ 140737488355328 := by
  rcases hd with ⟨h0, _⟩ | ⟨el, sp, hd, hl⟩
  · omega
  · have h1 := h el sp hd
    have h2 : el.length + sp.length ≤ (el.length + sp.length) * B := Nat.le_mul_of_pos_right _ hB
    have h3 := reachBytes_lt
    omega

/-- The processes, opened. -/
theorem open_rows {fuel : Nat} {v : Value} {x : DataW H × List MemPlace} (h : DataW.trod enc Yba.prog w 0 (fun _ => true) true fuel 23 [v] = some x) (hsz : ∀ n ∈ x.1.weights Yba.prog 23, n ≤ reachBytes) :
    ∃ a len cap, v = .slice a len cap ∧ (∃ (A : Nat → Option Addr) (L C : Nat → Nat) (V : Nat → Nat → Int), QA w a len A L C V ∧ (∀ i j, i < len → j < L i → -2147483648 ≤ V i j ∧ V i j ≤ 2147483647) ∧ ∀ i, i < len → L i ≤ 140737488355328) ∧ len ≤ 140737488355328 := by
  rcases open_slice1 Yba.underlying23 (by kernel_rfl) h with ⟨h1, rfl⟩ | ⟨a, len, cap, m, n, U, D, Pl, h1, _, hl, _, hm, rfl, hel⟩
  · simp only [List.cons.injEq, and_true] at h1
    exact ⟨none, 0, 0, h1, ⟨fun _ => none, fun _ => 0, fun _ => 0, fun _ _ => 0, .inl rfl, fun i j hi => by omega, fun i hi => by omega⟩, by omega⟩
  · simp only [List.cons.injEq, and_true] at h1
    simp only [if_true] at hm
    subst hm
    have b24 : Yba.prog.bytesOf 24 = 24 := by kernel_rfl
    have b21 : Yba.prog.bytesOf 21 = 4 := by kernel_rfl
    have hlen : len ≤ 140737488355328 := by
      have h2 := hsz _ (by simp only [DataW.weights, Yba.underlying23]; exact List.mem_cons_self)
      simp only [List.length_map, List.length_range, b24] at h2
      have h3 := reachBytes_lt
      omega
    have each : ∀ i, i < len → ∃ z : Option Addr × Nat × Nat × (Nat → Int), U i = .slice z.1 z.2.1 z.2.2.1 ∧ (CA w z.1 z.2.1 fun j => .int .i32 (z.2.2.2 j)) ∧ (∀ j, j < z.2.1 → -2147483648 ≤ z.2.2.2 j ∧ z.2.2.2 j ≤ 2147483647) ∧ z.2.1 ≤ 140737488355328 := by
      intro i hi
      obtain ⟨a', len', cap', hv, _, ⟨f, hf, hok⟩, hd⟩ := open_row (mk := Value.int .i32) (ok := fun z => -2147483648 ≤ z ∧ z ≤ 2147483647) Yba.underlying24 (by kernel_rfl) (fun n u y => i32_ok) (hel i (by omega)).2
      refine ⟨(a', len', cap', f), hv, hf, hok, small_of (B := 4) hd (fun el sp hd' => ?_) (by omega)⟩
      have hm : D i ∈ (List.range len).map D := List.mem_map.2 ⟨i, by simpa using hi, rfl⟩
      have h2 := hsz ((el.length + sp.length) * Yba.prog.bytesOf 21) (by
        simp only [DataW.weights, Yba.underlying23, List.mem_cons, List.mem_append]
        refine Or.inr (Or.inl (weights_in hm _ ?_))
        have hd2 : D i = .slice el sp := hd'
        rw [hd2]
        simp [DataW.weights, Yba.underlying24])
      rwa [b21] at h2
    obtain ⟨F, hF⟩ := choose_lt each
    refine ⟨some a, len, m, h1, ⟨fun i => (F i).1, fun i => (F i).2.1, fun i => (F i).2.2.1, fun i => (F i).2.2.2, ?_, fun i j hi hj => (hF i hi).2.2.1 j hj, fun i hi => (hF i hi).2.2.2⟩, hlen⟩
    by_cases h0 : len = 0
    · exact .inl h0
    obtain ⟨b, off, rfl⟩ := plain_addr (hel 0 (by omega)).1
    refine .inr ⟨b, off, rfl, fun i hi => ⟨?_, (hF i hi).2.1⟩⟩
    rw [← add_plain, (hel i (by omega)).1, (hF i hi).1]
end

set_option maxRecDepth 100000 in
set_option maxHeartbeats 1000000 in
theorem lifted (os : Os) (started : os.Started) (H : Type) (enc : TypeId × Value → H) :
    ReturnsInHanded {} Yba.checked os 3 .any (Rows.lawS6130AWholeSpec.pre6 enc Yba.prog Yba.f3 Rows.lawS6130AWholeRow.domain false) (Rows.lawS6130AWholeSpec.post enc Yba.prog Yba.f3 false true false false) := by
  refine returnsInHanded_of_change_sized (C := Yba.checked) own started (by kernel_rfl) Yba.func3
    (ChangeSpec.witness6 (enc := enc) (C := Yba.checked) false ⟨#[], #[.slice none 0 0, .slice none 0 0, .slice none 0 0], []⟩ 8 (by kernel_rfl) (by kernel_rfl) (by kernel_rfl) (by kernel_rfl)) ?_
  intro W base args ds gs before hval0 hW hcnd hsz0 _
  have hval : ∀ (j : Nat) t v, Yba.f3.params[j]? = some t → args[j]? = some v → Value.okWide Yba.prog W .any base t v := hval0
  have hsz : (DataW.weightsEach Yba.prog (Yba.f3.params.toList ++ Rows.lawS6130AWholeSpec.plain.varTypes Yba.prog) (ds ++ gs)).all (· ≤ reachBytes) = true := hsz0
  have hW' := hW
  obtain ⟨p, q, hA0, hV, rfl, hfz, hnd⟩ := hW
  have hA : DataW.TrodAll enc Yba.prog W 0 (fun _ => true) true Yba.f3.params.toList args.toList ds p := hA0
  rw [Yba.params3] at hA hval hsz
  obtain ⟨v0, vs0, d0, ds0, p0, q0, hargs, rfl, rfl, h0, r0⟩ := trodAll_cons hA
  obtain ⟨v1, vs1, d1, ds1, p1, q1, rfl, rfl, rfl, h1, r1⟩ := trodAll_cons r0
  obtain ⟨v2, vs2, d2, ds2, p2, q2, rfl, rfl, rfl, h2, r2⟩ := trodAll_cons r1
  obtain ⟨rfl, rfl, rfl⟩ := trodAll_nil r2
  obtain rfl : args = #[v0, v1, v2] := by cases args; simp_all
  obtain ⟨rfl, rfl⟩ := trodVars_none hV
  have k0 := h0
  have k1 := h1
  have k2 := h2
  have lt0 : ∀ x ∈ p0, x.block < W.heap.size := by obtain ⟨m, hm⟩ := k0; exact DataW.trod_lt m _ _ _ hm
  have lt1 : ∀ x ∈ p1, x.block < W.heap.size := by obtain ⟨m, hm⟩ := k1; exact DataW.trod_lt m _ _ _ hm
  have lt2 : ∀ x ∈ p2, x.block < W.heap.size := by obtain ⟨m, hm⟩ := k2; exact DataW.trod_lt m _ _ _ hm
  have one0 : v0.cells.toList = [v0] := by obtain ⟨a, l, c, rfl⟩ := okWide_slice Yba.underlying22 (hval 0 22 v0 rfl rfl); rfl
  have one1 : v1.cells.toList = [v1] := by obtain ⟨a, l, c, rfl⟩ := okWide_slice Yba.underlying23 (hval 1 23 v1 rfl rfl); rfl
  have one2 : v2.cells.toList = [v2] := by obtain ⟨a, l, c, rfl⟩ := okWide_slice Yba.underlying24 (hval 2 24 v2 rfl rfl); rfl
  obtain ⟨f0, t0⟩ := h0
  obtain ⟨f1, t1⟩ := h1
  obtain ⟨f2, t2⟩ := h2
  rw [one0] at t0
  rw [one1] at t1
  rw [one2] at t2
  have b4 : Yba.prog.bytesOf 4 = 1 := by kernel_rfl
  have b21 : Yba.prog.bytesOf 21 = 4 := by kernel_rfl
  obtain ⟨ca, n, cc, e0, hcn, ⟨B, hB, _⟩, hd0⟩ := open_row (mk := Value.bool) (ok := fun _ => True) Yba.underlying22 (by kernel_rfl) (fun n u y => bool_ok) t0
  obtain ⟨qa, pn, qc, e1, ⟨A, L, C, V, hQ, hV', hL⟩, hpn⟩ := open_rows t1 (fun n hn => by
    have hw := List.all_eq_true.1 hsz n (DataW.weights_mem_each (j := 1) (t := 23) (d := d1) rfl rfl _ hn)
    simpa using hw)
  obtain ⟨ra, rl, rc, e2, hrn, ⟨R, hR, hRb⟩, hd2⟩ := open_row (mk := Value.int .i32) (ok := fun z => -2147483648 ≤ z ∧ z ≤ 2147483647) Yba.underlying24 (by kernel_rfl) (fun n u y => i32_ok) t2
  have s0 : n ≤ 140737488355328 := small_of (B := 1) hd0 (fun el sp hd => by
    have := sized_slice hsz (j := 0) (t := 22) (e := 4) (elems := el) (spare := sp) rfl (congrArg some hd) Yba.underlying22
    rwa [b4] at this) (by omega)
  have s2 : rl ≤ 140737488355328 := small_of (B := 4) hd2 (fun el sp hd => by
    have := sized_slice hsz (j := 2) (t := 24) (e := 21) (elems := el) (spare := sp) rfl (congrArg some hd) Yba.underlying24
    rwa [b21] at this) (by omega)
  clear hA0 hval0 hsz0
  subst e0 e1 e2
  refine (law W hQ hV' hL s0 hpn s2 hR hRb hB hcn).mono fun e W' ⟨he, bel⟩ => ?_
  subst he
  exact ⟨_, rfl, _, _, _, [], _, [], hW', trodAll_mk1 (shut_bool Yba.underlying4 _),
    (trodAll_cons_mk (Below.trod laidOut (by kernel_rfl) (of_decide_eq_true (by kernel_rfl)) k0 bel lt0) (trodAll_cons_mk (Below.trod laidOut (by kernel_rfl) (of_decide_eq_true (by kernel_rfl)) k1 bel lt1)
    (trodAll_cons_mk (Below.trod laidOut (by kernel_rfl) (of_decide_eq_true (by kernel_rfl)) k2 bel lt2) trodAll_mk0))), rfl, bel.frame _, fun h => by cases h⟩

theorem lawS6130AWhole_proved : Rows.LawS6130AWholeSaid :=
  OpenClaim.holds_of_wide 3 Yba.f3 rfl rfl rfl rfl rfl rfl rfl ⟨rfl, rfl, rfl, rfl, rfl⟩ rfl rfl rfl rfl rfl (by kernel_rfl) Yba.func3 (by kernel_rfl)
    (of_decide_eq_true (by kernel_rfl)) (by unfold Func.isWrapper; first | (rw [if_pos (by decide +kernel)]; kernel_rfl) | (rw [if_neg (by decide +kernel)]; exact ⟨rfl, rfl⟩))
    (fun os started H enc _ => lifted os started H enc)
end Go.Proofs.Ybulkdvxu
