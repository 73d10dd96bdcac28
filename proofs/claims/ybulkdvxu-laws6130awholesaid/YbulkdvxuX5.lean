import Derived.Test.YbulkdvxuX4
import Derived.Deep.LoopGhost
namespace Go.Proofs.Ybulkdvxu
open Go.RowKit

/-- How many of the first k are kept. -/
def cnt (P : Nat → Bool) : Nat → Nat
  | 0 => 0
  | k + 1 => cnt P k + if P k then 1 else 0
theorem cnt_le (P : Nat → Bool) (k : Nat) : cnt P k ≤ k := by
  induction k with
  | zero => exact Nat.le_refl _
  | succ k ih => simp only [cnt]; split <;> omega
theorem cnt_congr {P Q : Nat → Bool} (k : Nat) (h : ∀ j, j < k → P j = Q j) : cnt P k = cnt Q k := by
  induction k with
  | zero => rfl
  | succ k ih => simp only [cnt]; rw [ih fun j hj => h j (by omega), h k (by omega)]

theorem ow_mark {base : Nat} {w : World} {g n t : Nat} {cur : Array Value} {B : Nat → Bool} {T : Nat → Int} {V : Nat} (hb : base ≤ g) (hh : w.heap[g]? = some (.cells cur 4 (0, 0))) (hc : ∀ j, j < n → cur[j]? = some (.bool (B j || among T V j))) (ht : t < n) (hT : T V = t) :
    OW base 4 (w.setCell ⟨g, t, none⟩ (.bool true)) (some ⟨g, 0, none⟩) n (fun j => .bool (B j || among T (V + 1) j)) := by
  have h := OW.set (base := base) hb hh hc ht (.bool true)
  rcases h with h | ⟨g', cur', h1, h2, h3, h4⟩
  · exact .inl h
  · refine .inr ⟨g', cur', h1, h2, h3, fun j hj => ?_⟩
    rw [h4 j hj]
    show some (if j = t then Value.bool true else Value.bool (B j || among T V j)) = some (Value.bool (B j || among T (V + 1) j))
    rw [among_succ, hT]
    by_cases e : j = t
    · subst e; simp
    · have : ((j : Int) == (t : Int)) = false := by simp; omega
      rw [if_neg e, this]; simp

theorem ow_cells {base e : Nat} {w : World} {a : Option Addr} {n : Nat} {f : Nat → Value} (h : OW base e w a n f) (t : Nat) (ht : t < n) : ∃ g cur, a = some ⟨g, 0, none⟩ ∧ base ≤ g ∧ w.heap[g]? = some (.cells cur e (0, 0)) ∧ (∀ j, j < n → cur[j]? = some (f j)) ∧ w.cell? ⟨g, t, none⟩ = some (f t) ∧ w.frozen? ⟨g, t, none⟩ = false := by
  rcases h with h | ⟨g, cur, rfl, hb, hh, hc⟩
  · omega
  · exact ⟨g, cur, rfl, hb, hh, hc, by rw [cell_of_row w g t cur e (0, 0) hh]; exact hc t ht, by simp [World.frozen?, hh]⟩

theorem OW.kept {base e : Nat} {w w' : World} {a : Option Addr} {n : Nat} {f : Nat → Value} (h : OW base e w a n f) (hb : Below w.heap.size w w') : OW base e w' a n f := by
  rcases h with h | ⟨g, cur, rfl, hg, hh, hc⟩
  · exact .inl h
  · exact .inr ⟨g, cur, rfl, hg, (hb.block g (Array.getElem?_eq_some_iff.1 hh).1).trans hh, hc⟩

set_option maxHeartbeats 2000000 in
theorem kept {sb pn pc tn tc rn rc n cc : Nat} {pa ta ra ca : Option Addr} {w : World} {Fn Tn Rn : Nat → Nat} {B : Nat → Bool} (h9 : w.cell? ⟨sb, 9, none⟩ = some (.slice pa pn pc)) (h10 : w.cell? ⟨sb, 10, none⟩ = some (.slice ta tn tc))
    (hP : PA w pa pn (fun i => ((Fn (i + 1) - Fn i : Nat) : Int)) (fun i => ((Fn i : Nat) : Int))) (hF0 : Fn 0 = 0) (hFs : ∀ i, i < pn → Fn i ≤ Fn (i + 1)) (hFt : Fn pn = tn) (hFb : ∀ i, i ≤ pn → Fn i ≤ tn)
    (hn : ta = none → tn = 0 ∧ tc = 0) (hs : ∀ x, ta = some x → x.spot = none) (h2 : tn ≤ tc) (h4 : tn ≤ 4096) (hpn : pn ≤ 4096) (hrn : rn ≤ 4096) (hnn : n ≤ 4096)
    (hT : CA w ta tn fun j => .int .i32 ((Tn j : Nat) : Int)) (hTn : ∀ j, j < tn → Tn j < n) (hR : CA w ra rn fun j => .int .i32 ((Rn j : Nat) : Int)) (hRn : ∀ j, j < rn → Rn j < n) (hB : CA w ca n fun j => .bool (B j)) (hcn : ca = none → n = 0 ∧ cc = 0) :
    Calls Yba.prog 8 #[.pointer (some ⟨sb, 0, none⟩), .slice ca n cc, .slice ra rn rc] w fun e w' =>
      e = .returned (.int .i64 (cnt (fun j => B j || among (fun j => ((Tn j : Nat) : Int)) tn j || among (fun j => ((Rn j : Nat) : Int)) rn j) n)) ∧ Below w.heap.size w w' := by
  have hsb : sb < w.heap.size := World.block_lt_of_cell? w _ h9
  have H9 := hide' h9
  have H10 := hide' h10
  have HP := hide' hP
  have HF0 := hide' hF0
  have HFs := hide' hFs
  have HFt := hide' hFt
  have HFb := hide' hFb
  have HN := hide' hn
  have HS := hide' hs
  have HT := hide' hT
  have HTn := hide' hTn
  have HR := hide' hR
  have HRn := hide' hRn
  have HB := hide' hB
  have HCN := hide' hcn
  clear h9 h10 hP hF0 hFs hFt hFb hn hs hT hTn hR hRn hB hcn
  go_enter Yba.func8, Yba.ntmps8
  go_wp2_with fail
  refine (cloneB cc (by omega) HCN.out HB.out).mono ?_
  rintro e w1 ⟨ka, kc, rfl, how, hbel⟩
  have HO := hide' how
  have i9 := (hbel.cell (p := ⟨sb, 9, none⟩) hsb).trans H9.out
  have HBL := hide' hbel
  clear how hbel
  go_wp2_with fail
  go_loopw [23] (fun i wr => ∃ k : Nat, k ≤ pn ∧ i = .int .i64 k ∧ OW w.heap.size 4 wr ka n (fun j => .bool (B j || among (fun j => ((Tn j : Nat) : Int)) (Fn k) j)) ∧ Below w.heap.size w wr) (fun i _ => pn - (intOf i).toNat)
  case atStart =>
    refine ⟨0, Nat.zero_le _, rfl, ?_, HBL.out⟩
    rw [HF0.out]
    simpa [among] using HO.out
  case round =>
    obtain ⟨k, hk, rfl, how, hbel⟩ := hrel
    have HOr := hide' how
    have HBr := hide' hbel
    clear how hbel i9
    by_cases hlt : k < pn
    · have hlt' : (k : Int) < (pn : Int) := by omega
      go_wp2_with fail
      have hFk := HFs.out k hlt
      have hFk1 := HFb.out (k + 1) (by omega)
      obtain ⟨ct, hct⟩ : ∃ ct, ct = Fn (k + 1) - Fn k := ⟨_, rfl⟩
      obtain ⟨lo, hlo⟩ : ∃ lo, lo = Fn k := ⟨_, rfl⟩
      have hsum : lo + ct ≤ tn := by omega
      have HE : Hid (lo + ct = Fn (k + 1)) := by unfold Hid; omega
      refine (waits (id := k) (lo := lo) (ct := ct) ((HBr.out.cell (p := ⟨sb, 9, none⟩) hsb).trans H9.out) ((HBr.out.cell (p := ⟨sb, 10, none⟩) hsb).trans H10.out) (HP.out.kept HBr.out) hlt (by rw [hct]) (by rw [hlo]) HN.out HS.out hsum h2 h4).mono ?_
      rintro e w2 ⟨a2, c2, rfl, ha2, hb2⟩
      have HA2 := hide' ha2
      have HO2 := hide' (HOr.out.kept hb2)
      have HB2 : Hid (Below w.heap.size w w2) := hide' (HBr.out.trans (hb2.mono HBr.out.size))
      have HLO := hide' hlo
      clear ha2 hb2 hFk hFk1 hct hlo HOr HBr
      go_wp2_with fail
      go_loopw [31] (fun i wr => ∃ q : Nat, q ≤ ct ∧ i = .int .i64 q ∧ OW w.heap.size 4 wr ka n (fun j => .bool (B j || among (fun j => ((Tn j : Nat) : Int)) (lo + q) j)) ∧ Below w.heap.size w wr) (fun i _ => ct - (intOf i).toNat)
      case atStart => exact ⟨0, Nat.zero_le _, rfl, by have h := HO2.out; rw [← HLO.out] at h; exact h, HB2.out⟩
      case round =>
        obtain ⟨q, hq, rfl, how, hbel⟩ := hrel
        by_cases hqt : q < ct
        · obtain ⟨tb, to, hta, rfl⟩ := HA2.out (by omega)
          have htl := HTn.out (lo + q) (by omega)
          obtain ⟨g, cur, rfl, hgb, hhg, hcg, hcell, hfro⟩ := ow_cells how _ htl
          have htv : wr.cell? ⟨tb, to + lo + q, none⟩ = some (.int .i32 ((Tn (lo + q) : Nat) : Int)) := by
            rcases HT.out with h | ⟨b, off, hx, h⟩
            · omega
            · rw [hta] at hx
              simp only [Option.some.injEq, Addr.mk.injEq, and_true] at hx
              obtain ⟨rfl, rfl⟩ := hx
              have hc := h (lo + q) (by omega)
              rw [Nat.add_assoc]
              exact (hbel.cell (p := ⟨tb, _, none⟩) (World.block_lt_of_cell? w _ hc)).trans hc
          have HS2 := hide' (ow_mark (T := fun j => ((Tn j : Nat) : Int)) hgb hhg hcg htl rfl)
          have HBr := hide' hbel
          clear how hbel hta hhg hcg
          generalize htg : Tn (lo + q) = t at *
          clear htg
          have hqt' : (q : Int) < (ct : Int) := by omega
          have ht' : (t : Int) < (n : Int) := by omega
          go_wp2_with fail
          go_roundw
          case rel => exact ⟨q + 1, by omega, by go_num, HS2.out, HBr.out.setCell hgb _⟩
          case measure => simp [intOf]; omega
        · have HO3 := hide' how
          have HB3 := hide' hbel
          clear how hbel
          go_wp2_with fail
          go_roundw
          case rel => exact ⟨k + 1, by omega, by go_num, by have h := HO3.out; rw [show lo + q = Fn (k + 1) by have := HE.out; omega] at h; exact h, HB3.out⟩
          case measure => simp [intOf]; omega
    · obtain rfl : k = pn := by omega
      have HO3 : Hid (OW w.heap.size 4 wr ka n (fun j => .bool ((B j || among (fun j => ((Tn j : Nat) : Int)) tn j) || among (fun j => ((Rn j : Nat) : Int)) 0 j))) := by
        have h := HOr.out
        rw [HFt.out] at h
        unfold Hid
        simpa [among] using h
      go_wp2_with fail
      go_loopw [42] (fun i wr => ∃ q : Nat, q ≤ rn ∧ i = .int .i64 q ∧ OW w.heap.size 4 wr ka n (fun j => .bool ((B j || among (fun j => ((Tn j : Nat) : Int)) tn j) || among (fun j => ((Rn j : Nat) : Int)) q j)) ∧ Below w.heap.size w wr) (fun i _ => rn - (intOf i).toNat)
      case atStart => exact ⟨0, Nat.zero_le _, rfl, HO3.out, HBr.out⟩
      case round =>
        obtain ⟨q, hq, rfl, how, hbel⟩ := hrel
        by_cases hqt : q < rn
        · have htl := HRn.out q hqt
          obtain ⟨g, cur, rfl, hgb, hhg, hcg, hcell, hfro⟩ := ow_cells how _ htl
          obtain ⟨rb, ro, rfl, htv⟩ : ∃ rb ro, ra = some ⟨rb, ro, none⟩ ∧ wr.cell? ⟨rb, ro + q, none⟩ = some (.int .i32 ((Rn q : Nat) : Int)) := by
            rcases HR.out with h | ⟨b, off, hx, h⟩
            · omega
            · have hc := h q hqt
              exact ⟨b, off, hx, (hbel.cell (p := ⟨b, _, none⟩) (World.block_lt_of_cell? w _ hc)).trans hc⟩
          have HS2 := hide' (ow_mark (T := fun j => ((Rn j : Nat) : Int)) hgb hhg hcg htl rfl)
          have HBr := hide' hbel
          clear how hbel hhg hcg
          generalize htg : Rn q = t at *
          clear htg
          have hqt' : (q : Int) < (rn : Int) := by omega
          have ht' : (t : Int) < (n : Int) := by omega
          go_wp2_with fail
          go_roundw
          case rel => exact ⟨q + 1, by omega, by go_num, HS2.out, HBr.out.setCell hgb _⟩
          case measure => simp [intOf]; omega
        · obtain rfl : q = rn := by omega
          have HO4 := hide' how
          have HB4 := hide' hbel
          clear how hbel
          go_wp2_with fail
          obtain ⟨P, hP⟩ : ∃ P : Nat → Bool, P = fun j => (B j || among (fun j => ((Tn j : Nat) : Int)) tn j) || among (fun j => ((Rn j : Nat) : Int)) q j := ⟨_, rfl⟩
          have HP' := hide' hP
          clear hP
          go_loop [13, 52] (fun s i => ∃ x : Nat, x ≤ n ∧ i = .int .i64 x ∧ s = .int .i64 (cnt P x)) (fun _ i => n - (intOf i).toNat)
          case atStart => exact ⟨0, Nat.zero_le _, rfl, rfl⟩
          case round =>
            obtain ⟨x, hx, rfl, rfl⟩ := hrel
            have hcl := cnt_le P x
            by_cases hxn : x < n
            · obtain ⟨g, cur, rfl, hgb, hhg, hcg, hcell, hfro⟩ := ow_cells HO4.out x hxn
              have hc2 : wr.cell? ⟨g, x, none⟩ = some (.bool (P x)) := by rw [hcell, HP'.out]
              have hxn' : (x : Int) < (n : Int) := by omega
              clear hcell hhg hcg
              have HCS : Hid (cnt P (x + 1) = cnt P x + if P x then 1 else 0) := rfl
              cases hpx : P x with
              | true =>
                rw [hpx] at hc2
                have HX := hide' hpx
                clear hpx
                go_wp2_with fail
                go_round
                case rel => exact ⟨x + 1, by omega, by go_num, by rw [HCS.out, HX.out]; go_num⟩
                case measure => simp [intOf]; omega
              | false =>
                rw [hpx] at hc2
                have HX := hide' hpx
                clear hpx
                go_wp2_with fail
                go_round
                case rel => exact ⟨x + 1, by omega, by go_num, by rw [HCS.out, HX.out]; go_num⟩
                case measure => simp [intOf]; omega
            · obtain rfl : x = n := by omega
              go_wp2_with fail
              go_ret
              exact ⟨by rw [HP'.out]; rfl, HB4.out⟩
end Go.Proofs.Ybulkdvxu
