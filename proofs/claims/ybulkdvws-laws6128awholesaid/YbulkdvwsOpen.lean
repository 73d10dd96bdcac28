import Derived.Test.YbulkdvwsW16
import Derived.ProofKit
import Derived.OpenShut
import Derived.ChangeOld
import Derived.SizedLaws
import Derived.Deep.Slices
namespace Go.Proofs.Ybulkdvws
open Go.ChangeShapes Go.WideShapes Go.ChangeAt Go.RowKit Go.Deep

section
variable {H : Type} {enc : TypeId × Value → H} {w : World}

theorem slice_len {fuel : Nat} {t e : TypeId} {v : Value} {x : DataW H × List MemPlace} (ht : Yba.prog.underlying t = some (.slice e)) (h : DataW.trod enc Yba.prog w 0 (fun _ => true) true fuel t [v] = some x) :
    ∃ a len cap, v = .slice a len cap ∧ (a = none → len = 0 ∧ cap = 0) ∧ ((len = 0 ∧ x.1 = .nil) ∨ ∃ el sp, x.1 = .slice el sp ∧ el.length = len) := by
  rcases DataW.trod_slice ht h with ⟨h1, rfl⟩ | ⟨a, len, cap, elems, rest, n, _, h1, rfl, _, _, _, hlen, _⟩
  · simp only [List.cons.injEq, and_true] at h1
    exact ⟨none, 0, 0, h1, fun _ => ⟨rfl, rfl⟩, .inl ⟨rfl, rfl⟩⟩
  · simp only [List.cons.injEq, and_true] at h1
    exact ⟨some a, len, cap, h1, fun h => by simp at h, .inr ⟨_, _, rfl, by simpa using hlen⟩⟩

theorem open_IA {fuel : Nat} {a : Option Addr} {len cap : Nat} {x : DataW H × List MemPlace} (h : DataW.trod enc Yba.prog w 0 (fun _ => true) true fuel 23 [.slice a len cap] = some x) : ∃ zs, IA w.heap.size w a len zs := by
  rcases open_ints Yba.underlying23 Yba.underlying3 (by kernel_rfl) h with ⟨hcs, _⟩ | ⟨a', len', cap', zs, hcs, _, hl, _, hz, _, hcell, _⟩
  · simp at hcs
    exact ⟨[], .inl hcs.2.1⟩
  · simp at hcs
    obtain ⟨rfl, rfl, rfl⟩ := hcs
    simp only [if_true] at hz
    by_cases h0 : len = 0
    · exact ⟨[], .inl h0⟩
    obtain ⟨b, off, spot⟩ := a'
    have hspot : spot = none := by simpa [Addr.add] using World.cell?_spot (hcell 0 (by omega))
    subst hspot
    have hc0 := hcell 0 (by omega)
    rw [add_plain] at hc0
    have hlt : b < w.heap.size := World.block_lt_of_cell? w _ hc0
    exact ⟨zs, .inr ⟨b, off, rfl, by omega, fun j hj => by rw [← add_plain]; exact hcell j (by omega)⟩⟩

theorem u16_nat {n : Int} (h : (Lit.int .u16 n).wf = true) : ∃ k : Nat, n = k ∧ k ≤ 65535 := by
  simp [Lit.wf, IntKind.min, IntKind.max, IntKind.signed, IntKind.bits] at h
  exact ⟨n.toNat, by omega, by omega⟩
theorem u64_nat {n : Int} (h : (Lit.int .u64 n).wf = true) : ∃ k : Nat, n = k ∧ k < 2 ^ 64 := by
  simp [Lit.wf, IntKind.min, IntKind.max, IntKind.signed, IntKind.bits] at h
  exact ⟨n.toNat, by omega, by omega⟩

theorem getD_map_range (f : Nat → Nat) (n j : Nat) (hj : j < n) : ((List.range n).map f).getD j 0 = f j := by simp [List.getD, hj]
theorem getD_map_le (f : Nat → Nat) (n j B : Nat) (h : ∀ i, i < n → f i ≤ B) : ((List.range n).map f).getD j 0 ≤ B := by
  by_cases hj : j < n
  · rw [getD_map_range f n j hj]; exact h j hj
  · simp [List.getD, hj]

theorem open_RA {fuel : Nat} {a : Option Addr} {len cap : Nat} {x : DataW H × List MemPlace} (h : DataW.trod enc Yba.prog w 0 (fun _ => true) true fuel 24 [.slice a len cap] = some x) :
    ∃ ls hs, RA w.heap.size w a len ls hs ∧ (∀ j, ls.getD j 0 ≤ 65535) ∧ ∀ j, hs.getD j 0 ≤ 65535 := by
  rcases open_slice Yba.underlying24 h with ⟨hcs, _⟩ | ⟨a', len', cap', m, n, D, Pl, hcs, _, hl, _, hm, _, hel⟩
  · simp at hcs
    exact ⟨[], [], .inl hcs.2.1, by simp, by simp⟩
  · simp at hcs
    obtain ⟨rfl, rfl, rfl⟩ := hcs
    simp only [if_true] at hm
    subst hm
    have h43 : Yba.prog.cellsOf 43 = 2 := by kernel_rfl
    have h22 : Yba.prog.cellsOf 22 = 1 := by kernel_rfl
    have each : ∀ i, i < len → ∃ q : Nat × Nat, w.cell? (a'.add (i * 2)) = some (.int .u16 (q.1 : Int)) ∧ w.cell? ((a'.add (i * 2)).add 1) = some (.int .u16 (q.2 : Int)) ∧ q.1 ≤ 65535 ∧ q.2 ≤ 65535 := by
      intro i hi
      obtain ⟨cs', h1, h2⟩ := hel i (by omega)
      rw [h43] at h1
      obtain ⟨_, hlen, hc⟩ := World.cells?_some h1
      obtain ⟨y0, y1, n', _, _, t0, t1⟩ := trod_struct2 Yba.underlying43 h2
      match cs', hlen with
      | [c0, c1], _ =>
        simp only [h22] at t0 t1
        obtain ⟨p0, e0, _, w0⟩ := DataW.trod_int Yba.underlying22 t0
        obtain ⟨p1, e1, _, w1⟩ := DataW.trod_int Yba.underlying22 t1
        simp at e0 e1
        obtain ⟨k0, rfl, b0⟩ := u16_nat w0
        obtain ⟨k1, rfl, b1⟩ := u16_nat w1
        have c0' := hc 0 (by omega)
        have c1' := hc 1 (by omega)
        refine ⟨(k0, k1), ?_, ?_, b0, b1⟩
        · simpa [Addr.add, e0] using c0'
        · rw [c1']; simp [e1]
    by_cases h0 : len = 0
    · exact ⟨[], [], .inl h0, by simp, by simp⟩
    obtain ⟨f, hf⟩ := choose_lt each
    obtain ⟨b, off, spot⟩ := a'
    have hspot : spot = none := by simpa [Addr.add] using World.cell?_spot (hf 0 (by omega)).1
    subst hspot
    have hc0 := (hf 0 (by omega)).1
    rw [add_plain] at hc0
    have hlt : b < w.heap.size := World.block_lt_of_cell? w _ hc0
    refine ⟨(List.range len).map fun i => (f i).1, (List.range len).map fun i => (f i).2, .inr ⟨b, off, rfl, by omega, fun j hj => ?_, fun j hj => ?_⟩, fun j => getD_map_le _ _ _ _ fun i hi => (hf i hi).2.2.1, fun j => getD_map_le _ _ _ _ fun i hi => (hf i hi).2.2.2⟩
    · rw [getD_map_range _ _ _ hj, ← add_plain]; exact (hf j hj).1
    · rw [getD_map_range _ _ _ hj]
      have := (hf j hj).2.1
      rw [add_plain, add_plain] at this
      exact this
end
end Go.Proofs.Ybulkdvws
