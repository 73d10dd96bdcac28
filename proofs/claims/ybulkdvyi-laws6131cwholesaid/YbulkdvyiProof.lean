import Derived.Test.YbulkdvyiZ8
import Derived.ProofKit
import Derived.OpenShut
import Derived.ChangeOld
import Derived.SizedLaws
import Derived.Deep.Slices
namespace Go.Proofs.Ybulkdvyi
open Go.ChangeShapes Go.WideShapes Go.ChangeAt Go.RowKit Go.Deep

theorem own : ownKnob Yba.prog.godebug = none := by kernel_rfl
theorem laidOut : laidOutB Yba.prog = true := by kernel_rfl

section
variable {H : Type} {enc : TypeId × Value → H} {w : World}
theorem plain_addr {w : World} {a : Addr} {v : Value} (h : w.cell? (a.add 0) = some v) : ∃ b off, a = ⟨b, off, none⟩ := by
  obtain ⟨b, off, spot⟩ := a
  have hspot : spot = none := by simpa [Addr.add] using World.cell?_spot h
  exact ⟨b, off, by rw [hspot]⟩

/-- A slice of strings, opened. -/
theorem open_row {fuel : Nat} {v : Value} {x : DataW H × List MemPlace} (h : DataW.trod enc Yba.prog w 0 (fun _ => true) true fuel 23 [v] = some x) :
    ∃ a len cap, v = .slice a len cap ∧ (a = none → len = 0 ∧ cap = 0) ∧ (∃ f : Nat → ByteArray, CA w a len fun j => .string (f j)) ∧ ((len = 0 ∧ x.1 = .nil) ∨ ∃ el sp, x.1 = .slice el sp ∧ el.length = len) := by
  rcases open_slice1 Yba.underlying23 (by kernel_rfl) h with ⟨h1, rfl⟩ | ⟨a, len, cap, m, n, V, D, Pl, h1, _, hl, _, hm, rfl, hel⟩
  · simp only [List.cons.injEq, and_true] at h1
    exact ⟨none, 0, 0, h1, fun _ => ⟨rfl, rfl⟩, ⟨fun _ => ByteArray.empty, .inl rfl⟩, .inl ⟨rfl, rfl⟩⟩
  · simp only [List.cons.injEq, and_true] at h1
    simp only [if_true] at hm
    subst hm
    refine ⟨some a, len, m, h1, fun h => by simp at h, ?_, .inr ⟨_, _, rfl, by simp⟩⟩
    obtain ⟨f, hf⟩ := choose_lt (n := len) (p := fun i (z : ByteArray) => V i = .string z) (fun i hi => by
      obtain ⟨s, hs, _⟩ := DataW.trod_string Yba.underlying9 (hel i (by omega)).2
      exact ⟨s, by simpa using hs⟩)
    refine ⟨f, ?_⟩
    by_cases h0 : len = 0
    · exact .inl h0
    obtain ⟨b, off, rfl⟩ := plain_addr (hel 0 (by omega)).1
    refine .inr ⟨b, off, rfl, fun j hj => ?_⟩
    rw [← add_plain, (hel j (by omega)).1, hf j hj]

theorem small_of {n B : Nat} {d : DataW H} (hd : (n = 0 ∧ d = .nil) ∨ ∃ el sp, d = .slice el sp ∧ el.length = n) (h : ∀ el sp, d = .slice el sp → (el.length + sp.length) * B ≤ reachBytes) (hB : 0 < B) : n ≤ 140737488355328 := by
  rcases hd with ⟨h0, _⟩ | ⟨el, sp, hd, hl⟩
  · omega
  · have h1 := h el sp hd
    have h2 : el.length + sp.length ≤ (el.length + sp.length) * B := Nat.le_mul_of_pos_right _ hB
    have h3 := reachBytes_lt
    omega
end

set_option maxRecDepth 100000 in
set_option maxHeartbeats 1000000 in
theorem lifted (os : Os) (started : os.Started) (H : Type) (enc : TypeId × Value → H) :
    ReturnsInHanded {} Yba.checked os 3 .any (Rows.lawS6131CWholeSpec.pre6 enc Yba.prog Yba.f3 Rows.lawS6131CWholeRow.domain false) (Rows.lawS6131CWholeSpec.post enc Yba.prog Yba.f3 false true false false) := by
  refine returnsInHanded_of_change_sized (C := Yba.checked) own started (by kernel_rfl) Yba.func3
    (ChangeSpec.witness6 (enc := enc) (C := Yba.checked) false ⟨#[], #[.string ByteArray.empty, .string ByteArray.empty, .string ByteArray.empty, .int .i64 0, .int .i64 0, .int .u64 0, .int .u64 0, .int .u64 0, .int .u64 0, .int .i64 0, .slice none 0 0, .int .i64 0], []⟩ 8 (by kernel_rfl) (by kernel_rfl) (by kernel_rfl) (by kernel_rfl)) ?_
  intro W base args ds gs before hval0 hW hcnd hsz0 _
  have hval : ∀ (j : Nat) t v, Yba.f3.params[j]? = some t → args[j]? = some v → Value.okWide Yba.prog W .any base t v := hval0
  have hsz : (DataW.weightsEach Yba.prog (Yba.f3.params.toList ++ Rows.lawS6131CWholeSpec.plain.varTypes Yba.prog) (ds ++ gs)).all (· ≤ reachBytes) = true := hsz0
  have hW' := hW
  obtain ⟨p, q, hA0, hV, rfl, hfz, hnd⟩ := hW
  have hA : DataW.TrodAll enc Yba.prog W 0 (fun _ => true) true Yba.f3.params.toList args.toList ds p := hA0
  rw [Yba.params3] at hA hval hsz
  obtain ⟨v0, vs0, d0, ds0, p0, q0, hargs, rfl, rfl, h0, r0⟩ := trodAll_cons hA
  obtain ⟨v1, vs1, d1, ds1, p1, q1, rfl, rfl, rfl, h1, r1⟩ := trodAll_cons r0
  obtain ⟨v2, vs2, d2, ds2, p2, q2, rfl, rfl, rfl, h2, r2⟩ := trodAll_cons r1
  obtain ⟨v3, vs3, d3, ds3, p3, q3, rfl, rfl, rfl, h3, r3⟩ := trodAll_cons r2
  obtain ⟨v4, vs4, d4, ds4, p4, q4, rfl, rfl, rfl, h4, r4⟩ := trodAll_cons r3
  obtain ⟨v5, vs5, d5, ds5, p5, q5, rfl, rfl, rfl, h5, r5⟩ := trodAll_cons r4
  obtain ⟨v6, vs6, d6, ds6, p6, q6, rfl, rfl, rfl, h6, r6⟩ := trodAll_cons r5
  obtain ⟨v7, vs7, d7, ds7, p7, q7, rfl, rfl, rfl, h7, r7⟩ := trodAll_cons r6
  obtain ⟨v8, vs8, d8, ds8, p8, q8, rfl, rfl, rfl, h8, r8⟩ := trodAll_cons r7
  obtain ⟨v9, vs9, d9, ds9, p9, q9, rfl, rfl, rfl, h9, r9⟩ := trodAll_cons r8
  obtain ⟨v10, vs10, d10, ds10, p10, q10, rfl, rfl, rfl, h10, r10⟩ := trodAll_cons r9
  obtain ⟨v11, vs11, d11, ds11, p11, q11, rfl, rfl, rfl, h11, r11⟩ := trodAll_cons r10
  obtain ⟨rfl, rfl, rfl⟩ := trodAll_nil r11
  obtain rfl : args = #[v0, v1, v2, v3, v4, v5, v6, v7, v8, v9, v10, v11] := by cases args; simp_all
  obtain ⟨rfl, rfl⟩ := trodVars_none hV
  have k0 := h0
  have lt0 : ∀ x ∈ p0, x.block < W.heap.size := by obtain ⟨m, hm⟩ := k0; exact DataW.trod_lt m _ _ _ hm
  have k1 := h1
  have lt1 : ∀ x ∈ p1, x.block < W.heap.size := by obtain ⟨m, hm⟩ := k1; exact DataW.trod_lt m _ _ _ hm
  have k2 := h2
  have lt2 : ∀ x ∈ p2, x.block < W.heap.size := by obtain ⟨m, hm⟩ := k2; exact DataW.trod_lt m _ _ _ hm
  have k3 := h3
  have lt3 : ∀ x ∈ p3, x.block < W.heap.size := by obtain ⟨m, hm⟩ := k3; exact DataW.trod_lt m _ _ _ hm
  have k4 := h4
  have lt4 : ∀ x ∈ p4, x.block < W.heap.size := by obtain ⟨m, hm⟩ := k4; exact DataW.trod_lt m _ _ _ hm
  have k5 := h5
  have lt5 : ∀ x ∈ p5, x.block < W.heap.size := by obtain ⟨m, hm⟩ := k5; exact DataW.trod_lt m _ _ _ hm
  have k6 := h6
  have lt6 : ∀ x ∈ p6, x.block < W.heap.size := by obtain ⟨m, hm⟩ := k6; exact DataW.trod_lt m _ _ _ hm
  have k7 := h7
  have lt7 : ∀ x ∈ p7, x.block < W.heap.size := by obtain ⟨m, hm⟩ := k7; exact DataW.trod_lt m _ _ _ hm
  have k8 := h8
  have lt8 : ∀ x ∈ p8, x.block < W.heap.size := by obtain ⟨m, hm⟩ := k8; exact DataW.trod_lt m _ _ _ hm
  have k9 := h9
  have lt9 : ∀ x ∈ p9, x.block < W.heap.size := by obtain ⟨m, hm⟩ := k9; exact DataW.trod_lt m _ _ _ hm
  have k10 := h10
  have lt10 : ∀ x ∈ p10, x.block < W.heap.size := by obtain ⟨m, hm⟩ := k10; exact DataW.trod_lt m _ _ _ hm
  have k11 := h11
  have lt11 : ∀ x ∈ p11, x.block < W.heap.size := by obtain ⟨m, hm⟩ := k11; exact DataW.trod_lt m _ _ _ hm
  obtain ⟨dir, e0, _⟩ := Go.ChangeMaps.open_string Yba.underlying9 (hval 0 9 v0 rfl rfl) h0
  obtain ⟨nm, e1, _⟩ := Go.ChangeMaps.open_string Yba.underlying9 (hval 1 9 v1 rfl rfl) h1
  obtain ⟨u, e2, _⟩ := Go.ChangeMaps.open_string Yba.underlying9 (hval 2 9 v2 rfl rfl) h2
  obtain ⟨x3, e3⟩ := okWide_int Yba.underlying2 (hval 3 2 v3 rfl rfl)
  obtain ⟨x4, e4⟩ := okWide_int Yba.underlying2 (hval 4 2 v4 rfl rfl)
  obtain ⟨x5, e5⟩ := okWide_int Yba.underlying22 (hval 5 22 v5 rfl rfl)
  obtain ⟨x6, e6⟩ := okWide_int Yba.underlying22 (hval 6 22 v6 rfl rfl)
  obtain ⟨x7, e7⟩ := okWide_int Yba.underlying22 (hval 7 22 v7 rfl rfl)
  obtain ⟨x8, e8⟩ := okWide_int Yba.underlying22 (hval 8 22 v8 rfl rfl)
  obtain ⟨x9, e9⟩ := okWide_int Yba.underlying3 (hval 9 3 v9 rfl rfl)
  obtain ⟨x11, e11⟩ := okWide_int Yba.underlying3 (hval 11 3 v11 rfl rfl)
  have one : v10.cells.toList = [v10] := by obtain ⟨a, l, c, rfl⟩ := okWide_slice Yba.underlying23 (hval 10 23 v10 rfl rfl); rfl
  obtain ⟨f10, t10⟩ := h10
  rw [one] at t10
  obtain ⟨a, n, c, e10, hnil, ⟨S, hS⟩, hd⟩ := open_row t10
  have b9 : Yba.prog.bytesOf 9 = 16 := by kernel_rfl
  have s10 : n ≤ 140737488355328 := small_of (B := 16) hd (fun el sp hd => by
    have := sized_slice hsz (j := 10) (t := 23) (e := 9) (elems := el) (spare := sp) rfl (congrArg some hd) Yba.underlying23
    rwa [b9] at this) (by omega)
  clear hA0 hval0 hsz0
  subst e0 e1 e2 e3 e4 e5 e6 e7 e8 e9 e10 e11
  refine (law W dir nm u x3 x4 x5 x6 x7 x8 x9 x11 s10 hnil hS).mono fun e W' ⟨he, bel⟩ => ?_
  subst he
  exact ⟨_, rfl, _, _, _, [], _, [], hW', trodAll_mk1 (shut_bool Yba.underlying4 _),
    (trodAll_cons_mk (Below.trod laidOut (by kernel_rfl) (of_decide_eq_true (by kernel_rfl)) k0 bel lt0)
    (trodAll_cons_mk (Below.trod laidOut (by kernel_rfl) (of_decide_eq_true (by kernel_rfl)) k1 bel lt1)
    (trodAll_cons_mk (Below.trod laidOut (by kernel_rfl) (of_decide_eq_true (by kernel_rfl)) k2 bel lt2)
    (trodAll_cons_mk (Below.trod laidOut (by kernel_rfl) (of_decide_eq_true (by kernel_rfl)) k3 bel lt3)
    (trodAll_cons_mk (Below.trod laidOut (by kernel_rfl) (of_decide_eq_true (by kernel_rfl)) k4 bel lt4)
    (trodAll_cons_mk (Below.trod laidOut (by kernel_rfl) (of_decide_eq_true (by kernel_rfl)) k5 bel lt5)
    (trodAll_cons_mk (Below.trod laidOut (by kernel_rfl) (of_decide_eq_true (by kernel_rfl)) k6 bel lt6)
    (trodAll_cons_mk (Below.trod laidOut (by kernel_rfl) (of_decide_eq_true (by kernel_rfl)) k7 bel lt7)
    (trodAll_cons_mk (Below.trod laidOut (by kernel_rfl) (of_decide_eq_true (by kernel_rfl)) k8 bel lt8)
    (trodAll_cons_mk (Below.trod laidOut (by kernel_rfl) (of_decide_eq_true (by kernel_rfl)) k9 bel lt9)
    (trodAll_cons_mk (Below.trod laidOut (by kernel_rfl) (of_decide_eq_true (by kernel_rfl)) k10 bel lt10)
    (trodAll_cons_mk (Below.trod laidOut (by kernel_rfl) (of_decide_eq_true (by kernel_rfl)) k11 bel lt11)
    trodAll_mk0)))))))))))), rfl, bel.frame _, fun h => by cases h⟩

theorem lawS6131CWhole_proved : Rows.LawS6131CWholeSaid :=
  OpenClaim.holds_of_wide 3 Yba.f3 rfl rfl rfl rfl rfl rfl rfl ⟨rfl, rfl, rfl, rfl, rfl⟩ rfl rfl rfl rfl rfl (by kernel_rfl) Yba.func3 (by kernel_rfl)
    (of_decide_eq_true (by kernel_rfl)) (by unfold Func.isWrapper; first | (rw [if_pos (by decide +kernel)]; kernel_rfl) | (rw [if_neg (by decide +kernel)]; exact ⟨rfl, rfl⟩))
    (fun os started H enc _ => lifted os started H enc)
end Go.Proofs.Ybulkdvyi
