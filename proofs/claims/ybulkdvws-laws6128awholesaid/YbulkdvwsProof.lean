import Derived.Test.YbulkdvwsOpen
namespace Go.Proofs.Ybulkdvws
open Go.ChangeShapes Go.WideShapes Go.ChangeAt Go.RowKit Go.Deep

theorem own : ownKnob Yba.prog.godebug = none := by kernel_rfl
theorem laidOut : laidOutB Yba.prog = true := by kernel_rfl

theorem list9 {l : List Value} (h : l.length = 9) : ∃ c0 c1 c2 c3 c4 c5 c6 c7 c8, l = [c0, c1, c2, c3, c4, c5, c6, c7, c8] := by
  match l, h with
  | [c0, c1, c2, c3, c4, c5, c6, c7, c8], _ => exact ⟨c0, c1, c2, c3, c4, c5, c6, c7, c8, rfl⟩

/-- The struct parameter, opened: its nine cells, and what its two slices lead to. -/
theorem open_in {H : Type} {enc : TypeId × Value → H} {w : World} {r : Reach} {b0 : Nat} {v : Value} {d : DataW H} {p : List MemPlace} (hv : Value.okWide Yba.prog w r b0 28 v) (h : DataW.Trod enc Yba.prog w 0 (fun _ => true) true 28 v d p) :
    ∃ (op out alv ar ar2 : Int) (ra ja : Option Addr) (rn rc jn jc x0 x1 : Nat) (ls hs : List Nat) (js : List Int) (dr dj : DataW H) (e0 e1 e2 e3 e4 e6 : DataW H),
      v = .agg #[.int .u8 op, .int .i64 out, .int .i64 alv, .int .i64 ar, .int .i64 ar2, .slice ra rn rc, .int .u64 (x0 : Nat), .int .u64 (x1 : Nat), .slice ja jn jc] ∧ d = .agg [e0, e1, e2, e3, e4, dr, e6, dj] ∧
      x0 < 2 ^ 64 ∧ x1 < 2 ^ 64 ∧ RA w.heap.size w ra rn ls hs ∧ (∀ j, ls.getD j 0 ≤ 65535) ∧ (∀ j, hs.getD j 0 ≤ 65535) ∧ IA w.heap.size w ja jn js ∧ (ja = none → jn = 0 ∧ jc = 0) ∧
      ((rn = 0 ∧ dr = .nil) ∨ ∃ el sp, dr = .slice el sp ∧ el.length = rn) ∧ ((jn = 0 ∧ dj = .nil) ∨ ∃ el sp, dj = .slice el sp ∧ el.length = jn) := by
  obtain ⟨cs, rfl, hsz⟩ := okWide_struct Yba.underlying28 hv
  have h9 : Yba.prog.cellsOf 28 = 9 := by kernel_rfl
  have h5 : Yba.prog.cellsOf 5 = 1 := by kernel_rfl
  have h3 : Yba.prog.cellsOf 3 = 1 := by kernel_rfl
  have h24 : Yba.prog.cellsOf 24 = 1 := by kernel_rfl
  have h26 : Yba.prog.cellsOf 26 = 2 := by kernel_rfl
  have h23 : Yba.prog.cellsOf 23 = 1 := by kernel_rfl
  have h25 : Yba.prog.cellsOf 25 = 1 := by kernel_rfl
  obtain ⟨c0, c1, c2, c3, c4, c5, c6, c7, c8, hcs⟩ := list9 (l := cs.toList) (by simpa [h9] using hsz)
  obtain rfl : cs = #[c0, c1, c2, c3, c4, c5, c6, c7, c8] := by apply Array.ext'; simpa using hcs
  obtain ⟨fuel, hf⟩ := h
  simp only [Value.cells] at hf
  obtain ⟨xs, n, _, hx, _, hlen, hfs⟩ := DataW.trod_struct Yba.underlying28 hf
  simp only [Prod.mk.injEq] at hx
  match xs, hlen with
  | [y0, y1, y2, y3, y4, y5, y6, y7], _ =>
    have t0 := hfs 0 _ rfl
    have t1 := hfs 1 _ rfl
    have t2 := hfs 2 _ rfl
    have t3 := hfs 3 _ rfl
    have t4 := hfs 4 _ rfl
    have t5 := hfs 5 _ rfl
    have t6 := hfs 6 _ rfl
    have t7 := hfs 7 _ rfl
    simp [h5, h3, h24, h26, h23] at t0 t1 t2 t3 t4 t5 t6 t7
    obtain ⟨op, q0, _, _⟩ := DataW.trod_int Yba.underlying5 t0
    obtain ⟨out, q1, _, _⟩ := DataW.trod_int Yba.underlying3 t1
    obtain ⟨alv, q2, _, _⟩ := DataW.trod_int Yba.underlying3 t2
    obtain ⟨ar, q3, _, _⟩ := DataW.trod_int Yba.underlying3 t3
    obtain ⟨ar2, q4, _, _⟩ := DataW.trod_int Yba.underlying3 t4
    simp at q0 q1 q2 q3 q4
    subst q0 q1 q2 q3 q4
    obtain ⟨ra, rn, rc, rfl, _, hdr⟩ := slice_len Yba.underlying24 t5
    obtain ⟨ja, jn, jc, rfl, hjn, hdj⟩ := slice_len Yba.underlying23 t7
    obtain ⟨zs, m, _, _, _, hl2, ha⟩ := DataW.trod_array Yba.underlying26 t6
    match zs, hl2 with
    | [z0, z1], _ =>
      have a0 := ha 0 (by omega)
      have a1 := ha 1 (by omega)
      simp [h25] at a0 a1
      obtain ⟨x0, q6, _, w6⟩ := DataW.trod_int Yba.underlying25 a0
      obtain ⟨x1, q7, _, w7⟩ := DataW.trod_int Yba.underlying25 a1
      simp at q6 q7
      subst q6 q7
      obtain ⟨x0, rfl, hx0⟩ := u64_nat w6
      obtain ⟨x1, rfl, hx1⟩ := u64_nat w7
      obtain ⟨ls, hs, hra, hls, hhs⟩ := open_RA t5
      obtain ⟨js, hja⟩ := open_IA t7
      exact ⟨op, out, alv, ar, ar2, ra, ja, rn, rc, jn, jc, x0, x1, ls, hs, js, y5.1, y7.1, y0.1, y1.1, y2.1, y3.1, y4.1, y6.1, rfl, hx.1, hx0, hx1, hra, hls, hhs, hja, hjn, hdr, hdj⟩

theorem small_of {H : Type} {n B : Nat} {d : DataW H} (hd : (n = 0 ∧ d = .nil) ∨ ∃ el sp, d = .slice el sp ∧ el.length = n) (h : ∀ el sp, d = .slice el sp → (el.length + sp.length) * B ≤ reachBytes) (hB : 0 < B) : n ≤ 140737488355328 := by
  rcases hd with ⟨h0, _⟩ | ⟨el, sp, hd, hl⟩
  · omega
  · have h1 := h el sp hd
    have h2 : el.length + sp.length ≤ (el.length + sp.length) * B := Nat.le_mul_of_pos_right _ hB
    have h3 := reachBytes_lt
    omega

set_option maxRecDepth 100000 in
set_option maxHeartbeats 1000000 in
theorem lifted (os : Os) (started : os.Started) (H : Type) (enc : TypeId × Value → H) :
    ReturnsInHanded {} Yba.checked os 3 .any (Rows.lawS6128AWholeSpec.pre6 enc Yba.prog Yba.f3 Rows.lawS6128AWholeRow.domain false) (Rows.lawS6128AWholeSpec.post enc Yba.prog Yba.f3 false true false false) := by
  refine returnsInHanded_of_change_sized (C := Yba.checked) own started (by kernel_rfl) Yba.func3
    (ChangeSpec.witness6 (enc := enc) (C := Yba.checked) false ⟨#[], #[.bool false, .int .u16 0, .int .i64 0, .bool false, .slice none 0 0, .int .i64 0, .int .i64 0, .agg #[.int .u8 0, .int .i64 0, .int .i64 0, .int .i64 0, .int .i64 0, .slice none 0 0, .int .u64 0, .int .u64 0, .slice none 0 0]], []⟩ 8 (by kernel_rfl) (by kernel_rfl) (by kernel_rfl) (by kernel_rfl)) ?_
  intro W base args ds gs before hval0 hW hcnd hsz0 _
  have hval : ∀ (j : Nat) t v, Yba.f3.params[j]? = some t → args[j]? = some v → Value.okWide Yba.prog W .any base t v := hval0
  have hsz : (DataW.weightsEach Yba.prog (Yba.f3.params.toList ++ Rows.lawS6128AWholeSpec.plain.varTypes Yba.prog) (ds ++ gs)).all (· ≤ reachBytes) = true := hsz0
  have hW' := hW
  obtain ⟨p, q, hA0, hV, rfl, hfz, hnd⟩ := hW
  have hA : DataW.TrodAll enc Yba.prog W 0 (fun _ => true) true Yba.f3.params.toList args.toList ds p := hA0
  rw [Yba.params3] at hA hval hsz
  obtain ⟨v0, vs0, d0, ds0, p0, q0, hargs, rfl, rfl, h0, r0⟩ := trodAll_cons hA
  obtain ⟨v1, vs1, d1, ds1, p1, q1, rfl, rfl, rfl, h1, r1⟩ := trodAll_cons r0
  obtain ⟨v2, vs2, d2, ds2, p2, q2, rfl, rfl, rfl, h2, r2⟩ := trodAll_cons r1
  obtain ⟨v3, vs3, d3, ds3, p3, q3, rfl, rfl, rfl, h3, r3⟩ := trodAll_cons r2
  obtain ⟨v4, vs4, d4, ds4, p4, q4, rfl, rfl, rfl, h4, r4⟩ := trodAll_cons r3
  obtain ⟨v5, vs5, d5, ds5, p5, q5, rfl, rfl, rfl, h5, r5⟩ := trodAll_cons r4
  obtain ⟨v6, vs6, d6, ds6, p6, q6, rfl, rfl, rfl, h6, r6⟩ := trodAll_cons r5
  obtain ⟨v7, vs7, d7, ds7, p7, q7, rfl, rfl, rfl, h7, r7⟩ := trodAll_cons r6
  obtain ⟨rfl, rfl, rfl⟩ := trodAll_nil r7
  obtain rfl : args = #[v0, v1, v2, v3, v4, v5, v6, v7] := by cases args; simp_all
  obtain ⟨rfl, rfl⟩ := trodVars_none hV
  have k0 := h0
  have k1 := h1
  have k2 := h2
  have k3 := h3
  have k4 := h4
  have k5 := h5
  have k6 := h6
  have k7 := h7
  have lt0 : ∀ x ∈ p0, x.block < W.heap.size := by obtain ⟨m, hm⟩ := k0; exact DataW.trod_lt m _ _ _ hm
  have lt1 : ∀ x ∈ p1, x.block < W.heap.size := by obtain ⟨m, hm⟩ := k1; exact DataW.trod_lt m _ _ _ hm
  have lt2 : ∀ x ∈ p2, x.block < W.heap.size := by obtain ⟨m, hm⟩ := k2; exact DataW.trod_lt m _ _ _ hm
  have lt3 : ∀ x ∈ p3, x.block < W.heap.size := by obtain ⟨m, hm⟩ := k3; exact DataW.trod_lt m _ _ _ hm
  have lt4 : ∀ x ∈ p4, x.block < W.heap.size := by obtain ⟨m, hm⟩ := k4; exact DataW.trod_lt m _ _ _ hm
  have lt5 : ∀ x ∈ p5, x.block < W.heap.size := by obtain ⟨m, hm⟩ := k5; exact DataW.trod_lt m _ _ _ hm
  have lt6 : ∀ x ∈ p6, x.block < W.heap.size := by obtain ⟨m, hm⟩ := k6; exact DataW.trod_lt m _ _ _ hm
  have lt7 : ∀ x ∈ p7, x.block < W.heap.size := by obtain ⟨m, hm⟩ := k7; exact DataW.trod_lt m _ _ _ hm
  obtain ⟨big, e0⟩ := okWide_bool Yba.underlying4 (hval 0 4 v0 rfl rfl)
  obtain ⟨pre, e1, _, _, w1⟩ := open_int Yba.underlying22 (hval 1 22 v1 rfl rfl) h1
  obtain ⟨dep, e2⟩ := okWide_int Yba.underlying3 (hval 2 3 v2 rfl rfl)
  obtain ⟨tl, e3⟩ := okWide_bool Yba.underlying4 (hval 3 4 v3 rfl rfl)
  obtain ⟨sl, e5⟩ := okWide_int Yba.underlying3 (hval 5 3 v5 rfl rfl)
  obtain ⟨st, e6⟩ := okWide_int Yba.underlying3 (hval 6 3 v6 rfl rfl)
  obtain ⟨a4, n4, c4, e4⟩ := okWide_slice Yba.underlying23 (hval 4 23 v4 rfl rfl)
  obtain ⟨op, out, alv, ar, ar2, ra, ja, rn, rc, jn, jc, x0, x1, ls, hs, js, dr, dj, g0, g1, g2, g3, g4, g6, e7, ed7, hx0, hx1, hra, hls, hhs, hja, hjn, hdr, hdj⟩ := open_in (hval 7 28 v7 rfl rfl) h7
  obtain ⟨pre, rfl, hpre⟩ := u16_nat w1
  have h4' : ∃ (fuel : Nat), DataW.trod enc Yba.prog W 0 (fun _ => true) true fuel 23 [.slice a4 n4 c4] = some (d4, p4) := by
    obtain ⟨fuel, hf⟩ := h4
    subst e4
    exact ⟨fuel, by simpa [Value.cells] using hf⟩
  obtain ⟨f4, hf4⟩ := h4'
  obtain ⟨zs, hia⟩ := open_IA hf4
  obtain ⟨a4', n4', c4', he4, hn4, hd4⟩ := slice_len Yba.underlying23 hf4
  simp only [Value.slice.injEq] at he4
  obtain ⟨rfl, rfl, rfl⟩ := he4
  have b3 : Yba.prog.bytesOf 3 = 8 := by kernel_rfl
  have b43 : Yba.prog.bytesOf 43 = 4 := by kernel_rfl
  have s4 : n4 ≤ 140737488355328 := small_of (B := 8) hd4 (fun el sp hd => by
    have := sized_slice hsz (j := 4) (t := 23) (e := 3) (elems := el) (spare := sp) rfl (congrArg some hd) Yba.underlying23
    rwa [b3] at this) (by omega)
  have sR : rn ≤ 140737488355328 := small_of (B := 4) hdr (fun el sp hd => by
    have hw := List.all_eq_true.1 hsz ((el.length + sp.length) * Yba.prog.bytesOf 43) (DataW.weights_mem_each (j := 7) (t := 28) (d := d7) rfl rfl _ (by
      rw [ed7, hd]
      simp only [DataW.weights, Yba.underlying28]
      exact DataW.weights_mem_each (j := 5) (t := 24) (d := .slice el sp) rfl rfl _ (by simp [DataW.weights, Yba.underlying24])))
    rw [b43] at hw
    simpa using hw) (by omega)
  have sJ : jn ≤ 140737488355328 := small_of (B := 8) hdj (fun el sp hd => by
    have hw := List.all_eq_true.1 hsz ((el.length + sp.length) * Yba.prog.bytesOf 3) (DataW.weights_mem_each (j := 7) (t := 28) (d := d7) rfl rfl _ (by
      rw [ed7, hd]
      simp only [DataW.weights, Yba.underlying28]
      exact DataW.weights_mem_each (j := 7) (t := 23) (d := .slice el sp) rfl rfl _ (by simp [DataW.weights, Yba.underlying23])))
    rw [b3] at hw
    simpa using hw) (by omega)
  clear hA0 hval0 hsz0
  subst e0 e1 e2 e3 e4 e5 e6 e7
  refine (law W big pre rn n4 jn c4 rc jc x0 x1 a4 ra ja op out alv ar ar2 st sl dep tl ls hs zs js hpre sR s4 sJ hx0 hx1 hls hhs hjn hn4 hra hia hja).mono fun e W' ⟨he, bel⟩ => ?_
  subst he
  exact ⟨_, rfl, _, _, _, [], _, [], hW', trodAll_mk1 (shut_bool Yba.underlying4 _),
    (trodAll_cons_mk (Below.trod laidOut (by kernel_rfl) (of_decide_eq_true (by kernel_rfl)) k0 bel lt0) (trodAll_cons_mk (Below.trod laidOut (by kernel_rfl) (of_decide_eq_true (by kernel_rfl)) k1 bel lt1)
    (trodAll_cons_mk (Below.trod laidOut (by kernel_rfl) (of_decide_eq_true (by kernel_rfl)) k2 bel lt2) (trodAll_cons_mk (Below.trod laidOut (by kernel_rfl) (of_decide_eq_true (by kernel_rfl)) k3 bel lt3)
    (trodAll_cons_mk (Below.trod laidOut (by kernel_rfl) (of_decide_eq_true (by kernel_rfl)) k4 bel lt4) (trodAll_cons_mk (Below.trod laidOut (by kernel_rfl) (of_decide_eq_true (by kernel_rfl)) k5 bel lt5)
    (trodAll_cons_mk (Below.trod laidOut (by kernel_rfl) (of_decide_eq_true (by kernel_rfl)) k6 bel lt6) (trodAll_cons_mk (Below.trod laidOut (by kernel_rfl) (of_decide_eq_true (by kernel_rfl)) k7 bel lt7) trodAll_mk0)))))))), rfl, bel.frame _, fun h => by cases h⟩

theorem lawS6128AWhole_proved : Rows.LawS6128AWholeSaid :=
  OpenClaim.holds_of_wide 3 Yba.f3 rfl rfl rfl rfl rfl rfl rfl ⟨rfl, rfl, rfl, rfl, rfl⟩ rfl rfl rfl rfl rfl (by kernel_rfl) Yba.func3 (by kernel_rfl)
    (of_decide_eq_true (by kernel_rfl)) (by unfold Func.isWrapper; first | (rw [if_pos (by decide +kernel)]; kernel_rfl) | (rw [if_neg (by decide +kernel)]; exact ⟨rfl, rfl⟩))
    (fun os started H enc _ => lifted os started H enc)
end Go.Proofs.Ybulkdvws
