import Derived.Test.YbulkdvwsW3
import Derived.Deep.DeepCutAuto
namespace Go.Proofs.Ybulkdvws
open Go.RowKit

/-- The compiler: its block, whole. -/
def CBlock (w : World) (c : Nat) (iv : Value) (st sl d : Int) (tv : Value) (tl : Bool) : Prop :=
  w.heap[c]? = some (.cells #[iv, .int .i64 st, .int .i64 sl, .int .i64 d, .pointer none, tv, .bool tl] 41 (0, 0))
theorem CBlock.cell {w : World} {c : Nat} {iv tv : Value} {st sl d : Int} {tl : Bool} (h : CBlock w c iv st sl d tv tl) :
    w.cell? ⟨c, 0, none⟩ = some iv ∧ w.cell? ⟨c, 3, none⟩ = some (.int .i64 d) ∧ w.cell? ⟨c, 5, none⟩ = some tv ∧ w.frozen? ⟨c, 0, none⟩ = false ∧ w.frozen? ⟨c, 3, none⟩ = false := by
  unfold CBlock at h
  refine ⟨?_, ?_, ?_, ?_, ?_⟩ <;> simp [World.cell?, World.frozen?, h]

theorem c_depth {w wr : World} {c : Nat} {iv tv sv bv : Value} {st sl d op out alv ar ar2 : Int} {a0 a1 : Nat} {tl : Bool} (hC : CBlock w c iv st sl d tv tl) (hbel : Below w.heap.size w wr) (hb : c < w.heap.size) (hbox : Box wr w.heap.size op out alv ar ar2 sv a0 a1 bv) (M M' : Int) (hM : M = M') :
    (wr.setCell ⟨c, 3, none⟩ (.int .i64 M)).drew.heap.size = wr.heap.size ∧ CBlock (wr.setCell ⟨c, 3, none⟩ (.int .i64 M)).drew c iv st sl M' tv tl ∧ Box (wr.setCell ⟨c, 3, none⟩ (.int .i64 M)).drew w.heap.size op out alv ar ar2 sv a0 a1 bv ∧ w.grownBy (wr.setCell ⟨c, 3, none⟩ (.int .i64 M)).drew (some c) := by
  subst hM
  refine ⟨by show (wr.setCell _ _).heap.size = _; simp [World.setCell], ?_, ?_, ?_⟩
  · unfold CBlock at hC ⊢
    rw [← hbel.block c hb] at hC
    show (wr.setCell _ _).heap[c]? = _
    simp [World.setCell, Array.getElem?_modify, hC]
  · unfold Box at hbox ⊢
    show (wr.setCell _ _).heap[w.heap.size]? = _
    rw [Below.heap_setCell _ _ _ _ (by show w.heap.size ≠ c; omega)]; exact hbox
  · refine ⟨hbel.os, hbel.tape, hbel.output, ?_, fun k hk hne => ?_⟩
    · show _ ≤ (wr.setCell _ _).heap.size
      have := hbel.size
      simpa [World.setCell] using this
    · show (wr.setCell _ _).heap[k]? = _
      rw [Below.heap_setCell _ _ _ _ (fun e => hne (by rw [e]))]
      exact hbel.block k hk

theorem Box.all {w : World} {B : Nat} {op out alv ar ar2 : Int} {sv iv : Value} {a0 a1 : Nat} (h : Box w B op out alv ar ar2 sv a0 a1 iv) :
    w.cell? ⟨B, 0, none⟩ = some (.int .u8 op) ∧ w.cell? ⟨B, 1, none⟩ = some (.int .i64 out) ∧ w.cell? ⟨B, 2, none⟩ = some (.int .i64 alv) ∧ w.cell? ⟨B, 3, none⟩ = some (.int .i64 ar) ∧ w.cell? ⟨B, 4, none⟩ = some (.int .i64 ar2) ∧
    w.cell? ⟨B, 5, none⟩ = some sv ∧ w.cell? ⟨B, 6, none⟩ = some (.int .u64 a0) ∧ w.cell? ⟨B, 7, none⟩ = some (.int .u64 a1) ∧ w.cell? ⟨B, 8, none⟩ = some iv := by
  unfold Box at h
  refine ⟨?_, ?_, ?_, ?_, ?_, ?_, ?_, ?_, ?_⟩ <;> simp [World.cell?, h]

/-- The cells of an instruction as a list. -/
def newCells (op out alv ar ar2 : Int) (sv : Value) (a0 a1 : Nat) (iv : Value) : List Value := [.int .u8 op, .int .i64 out, .int .i64 alv, .int .i64 ar, .int .i64 ar2, sv, .int .u64 a0, .int .u64 a1, iv]
theorem Yba.info34 : (Yba.prog.info? 34).map (fun i => (i.zero, i.size, i.bytes)) = some (some (.agg #[.int .u8 0, .int .i64 0, .int .i64 0, .int .i64 0, .int .i64 0, .slice none 0 0, .int .u64 0, .int .u64 0, .slice none 0 0]), 9, 104) := by kernel_rfl
theorem add_plain (b off j : Nat) : (⟨b, off, none⟩ : Addr).add j = ⟨b, off + j, none⟩ := by unfold Addr.add; split <;> simp_all

theorem hide' {p : Prop} (h : p) : Hid p := h
theorem own_form {w : World} {base e size n : Nat} {v : Value} {xs : List Value} (h : w.ownsRow base e size v (n + 1) xs) : ∃ g cap, v = .slice (some ⟨g, 0, none⟩) (n + 1) cap := by
  rcases h.2 with ⟨_, h0⟩ | ⟨g, cap, cur, hv, _⟩
  · omega
  · exact ⟨g, cap, hv⟩
theorem grown_cell {wc w' : World} {o : Obj} {c : Nat} {u : Value} (hc : c < wc.heap.size) (h0 : wc.cell? ⟨c, 0, none⟩ = some u) (f0 : wc.frozen? ⟨c, 0, none⟩ = false) (hg : (wc.alloc o).drew.grownBy w' none) : w'.cell? ⟨c, 0, none⟩ = some u ∧ w'.frozen? ⟨c, 0, none⟩ = false := by
  have hb : w'.heap[c]? = wc.heap[c]? := (hg.block c (by show c < (wc.alloc o).heap.size; simp; omega) (by simp)).trans (Below.heap_alloc _ _ _ hc)
  exact ⟨(World.cell?_of_block (w := wc) (a := ⟨c, 0, none⟩) hb).trans h0, (World.frozen?_of_block (w := wc) (a := ⟨c, 0, none⟩) hb).trans f0⟩

theorem emit_end {w wc w' : World} {c g n m il ic g' cap' x0 x1 a0 a1 : Nat} {sv : Value} {ta : Option Addr} {olds : List Value} {op out alv ar ar2 st sl d : Int} {tl : Bool} {ls hs : List Nat} {o : Obj} (ha0 : a0 < 2 ^ 64) (ha1 : a1 < 2 ^ 64)
    (ht : ∀ p, p < 128 → tb a0 a1 p = (tb x0 x1 p || anyR ls hs m p)) (hBw : w.heap.size < wc.heap.size) (hcw : c < wc.heap.size) (hC : CBlock wc c (.slice (some ⟨g, 0, none⟩) n n) st sl d (.slice ta il ic) tl) (hg : w.grownBy wc (some c))
    (hown : w'.ownsRow (wc.alloc o).drew.heap.size 34 9 (.slice (some ⟨g', 0, none⟩) (n + 1) cap') (n + 1) (olds ++ newCells op out alv ar ar2 sv a0 a1 (.slice ta il ic))) (hgr : (wc.alloc o).drew.grownBy w' none) :
    ∃ (g'_1 cap'_1 a0 a1 : Nat) (cur : Array Value), a0 < 2 ^ 64 ∧ a1 < 2 ^ 64 ∧ (∀ p, p < 128 → tb a0 a1 p = (tb x0 x1 p || anyR ls hs m p)) ∧ w.heap.size ≤ g'_1 ∧
        (w'.setCell ⟨c, 0, none⟩ (.slice (some ⟨g', 0, none⟩) (n + 1) cap')).heap[g'_1]? = some (.cells cur 34 (0, 0)) ∧ cur.toList.take ((n + 1) * 9) = olds ++ newCells op out alv ar ar2 sv a0 a1 (.slice ta il ic) ∧
        CBlock (w'.setCell ⟨c, 0, none⟩ (.slice (some ⟨g', 0, none⟩) (n + 1) cap')) c (.slice (some ⟨g'_1, 0, none⟩) (n + 1) cap'_1) st sl d (.slice ta il ic) tl ∧ w.grownBy (w'.setCell ⟨c, 0, none⟩ (.slice (some ⟨g', 0, none⟩) (n + 1) cap')) (some c) := by
  have hsz : (wc.alloc o).drew.heap.size = wc.heap.size + 1 := by show (wc.alloc o).heap.size = _; simp
  rcases hown.2 with ⟨h, _⟩ | ⟨gg, cp, cur, hv, hb, hh, _, _, _, htake⟩
  · simp at h
  simp only [Value.slice.injEq, Option.some.injEq, Addr.mk.injEq, and_true, true_and] at hv
  obtain ⟨rfl, rfl⟩ := hv
  rw [hsz] at hb
  have hbl : ∀ k, k < wc.heap.size → w'.heap[k]? = wc.heap[k]? := fun k hk => (hgr.block k (by omega) (by simp)).trans (Below.heap_alloc _ _ _ hk)
  refine ⟨g', cap', a0, a1, cur, ha0, ha1, ht, by omega, ?_, htake, ?_, ?_⟩
  · rw [Below.heap_setCell _ _ _ _ (by show g' ≠ c; omega)]; exact hh
  · unfold CBlock at hC ⊢
    rw [← hbl c hcw] at hC
    simp [World.setCell, Array.getElem?_modify, hC]
  · refine ⟨hgr.os.trans hg.os, hgr.tape.trans hg.tape, hgr.output.trans hg.output, ?_, fun k hk hne => ?_⟩
    · have := hgr.size
      simp [World.setCell]
      omega
    · rw [Below.heap_setCell _ _ _ _ (fun e => hne (by rw [e]))]
      exact (hbl k (by omega)).trans (hg.block k hk hne)

theorem and63_all : ∀ v : Fin 128, bits .and .i64 ((v.val : Nat) : Int) 63 = ((v.val % 64 : Nat) : Int) := by decide
theorem and63_lo (v : Nat) (h : v < 64) : bits .and .i64 (v : Int) 63 = (v : Int) := by
  have := and63_all ⟨v, by omega⟩
  simp only at this
  rw [this, Nat.mod_eq_of_lt h]
theorem and63_hi (v : Nat) (h : v < 128) (h' : 64 ≤ v) : bits .and .i64 (v : Int) 63 = ((v - 64 : Nat) : Int) := by
  have := and63_all ⟨v, h⟩
  simp only at this
  rw [this]; congr 1; omega

set_option maxRecDepth 100000 in
set_option maxHeartbeats 1000000 in
theorem emit_grow (c g : Nat) (n : Nat) (olds : List Value) (op out alv ar ar2 st sl d : Int) (tl : Bool) (x0 x1 : Nat) (sa oa ta : Option Addr) (m sc ol oc il ic : Nat) (ls hs : List Nat) (w : World) (hn : n < 16384)
    (hm : m ≤ 1048576) (hx0 : x0 < 2 ^ 64) (hx1 : x1 < 2 ^ 64) (hls : ∀ j, ls.getD j 0 ≤ 65535) (hhs : ∀ j, hs.getD j 0 ≤ 65535)
    (hC : CBlock w c (.slice (some ⟨g, 0, none⟩) n n) st sl d (.slice ta il ic) tl) (hgc : g ≠ c) (hG : w.heap[g]? = some (.cells olds.toArray 34 (0, 0))) (hol : olds.length = n * 9)
    (hset : 0 < m → ∃ sb so, sa = some ⟨sb, so, none⟩ ∧ sb < w.heap.size ∧ (∀ j, j < m → w.cell? ⟨sb, so + j * 2, none⟩ = some (.int .u16 ((ls.getD j 0 : Nat) : Int))) ∧ (∀ j, j < m → w.cell? ⟨sb, so + j * 2 + 1, none⟩ = some (.int .u16 ((hs.getD j 0 : Nat) : Int)))) :
    Calls Yba.prog 5 #[.pointer (some ⟨c, 0, none⟩), .agg #[.int .u8 op, .int .i64 out, .int .i64 alv, .int .i64 ar, .int .i64 ar2, .slice sa m sc, .int .u64 x0, .int .u64 x1, .slice oa ol oc]] w fun e w' =>
      e = .returned (.int .i64 n) ∧ ∃ (g' cap' a0 a1 : Nat) (cur : Array Value), a0 < 2 ^ 64 ∧ a1 < 2 ^ 64 ∧ (∀ p, p < 128 → tb a0 a1 p = (tb x0 x1 p || anyR ls hs m p)) ∧ w.heap.size ≤ g' ∧
        w'.heap[g']? = some (.cells cur 34 (0, 0)) ∧ cur.toList.take ((n + 1) * 9) = olds ++ newCells op out alv ar ar2 (.slice sa m sc) a0 a1 (.slice ta il ic) ∧
        CBlock w' c (.slice (some ⟨g', 0, none⟩) (n + 1) cap') st sl (max d il) (.slice ta il ic) tl ∧ w.grownBy w' (some c) := by
  obtain ⟨h0, h3, h5, f0, f3⟩ := hC.cell
  have hb : c < w.heap.size := World.block_lt_of_cell? w _ h0
  have hd0 : decide ((16384 : Int) ≤ (n : Int)) = false := decide_eq_false (by omega)
  go_enter Yba.func5, Yba.ntmps5
  go_wp2
  go_loopw [26] (fun i wr => ∃ k a0 a1 : Nat, k ≤ m ∧ i = .int .i64 k ∧ Box wr w.heap.size op out alv ar ar2 (.slice sa m sc) a0 a1 (.slice ta il ic) ∧ Below w.heap.size w wr ∧ w.heap.size < wr.heap.size ∧ a0 < 2 ^ 64 ∧ a1 < 2 ^ 64 ∧
      ∀ p, p < 128 → tb a0 a1 p = (tb x0 x1 p || anyR ls hs k p)) (fun i _ => m - (intOf i).toNat)
  case atStart => exact ⟨0, x0, x1, Nat.zero_le _, rfl, heap_alloc_new w _, (Below.refl _ _).alloc (Nat.le_refl _) _, by simp, hx0, hx1, fun p _ => by simp [anyR]⟩
  case round =>
    obtain ⟨k, a0, a1, hk, rfl, hbox, hbel, hsz, ha0, ha1, htb⟩ := hrel
    by_cases hlt : k < m
    · obtain ⟨sb, so, rfl, hsb, hl, hh⟩ := hset (by omega)
      have gl := (hbel.cell (p := ⟨sb, so + k * 2, none⟩) hsb).trans (hl k hlt)
      have gh := (hbel.cell (p := ⟨sb, so + k * 2 + 1, none⟩) hsb).trans (hh k hlt)
      have HT : Hid (∀ p, p < 128 → tb a0 a1 p = (tb x0 x1 p || anyR ls hs k p)) := htb
      have HH0 : Hid (w.cell? ⟨c, 0, none⟩ = some (.slice (some ⟨g, 0, none⟩) n n)) := h0
      have HH3 : Hid (w.cell? ⟨c, 3, none⟩ = some (.int .i64 d)) := h3
      have HH5 : Hid (w.cell? ⟨c, 5, none⟩ = some (.slice ta il ic)) := h5
      clear htb hset hl hh h0 h3 h5
      have bl := hls k
      have bh := hhs k
      clear hls hhs
      generalize hlv : ls.getD k 0 = lv at gl bl
      generalize hhv : hs.getD k 0 = hv at gh bh
      have HL : Hid (ls.getD k 0 = lv) := hlv
      have HV : Hid (hs.getD k 0 = hv) := hhv
      clear hlv hhv
      have hsb' : sb < wr.heap.size := by omega
      go_wp2
      obtain ⟨wo, HWO⟩ : ∃ wo : World, Hid (wo = wr) := ⟨_, rfl⟩
      obtain ⟨R, hR⟩ : ∃ R, R = wr.heap.size := ⟨_, rfl⟩
      rw [← hR]
      have hwR : Hid (w.heap.size < R) := by unfold Hid; omega
      have HR : Hid (R = wr.heap.size) := hR
      clear hR
      go_loopw [7] (fun u wi => ∃ v b0 b1 : Nat, u = .int .i64 v ∧ (v = lv ∨ (lv ≤ v ∧ v ≤ 128 ∧ v ≤ hv + 1)) ∧ Box wi w.heap.size op out alv ar ar2 (.slice (some ⟨sb, so, none⟩) m sc) b0 b1 (.slice ta il ic) ∧ Below w.heap.size w wi ∧ R < wi.heap.size ∧
          wi.heap[R]? = some (.cells #[.int .u16 lv, .int .u16 hv] 45 (0, 0)) ∧ b0 < 2 ^ 64 ∧ b1 < 2 ^ 64 ∧ ∀ p, p < 128 → tb b0 b1 p = (tb a0 a1 p || decide (lv ≤ p ∧ p < v))) (fun u _ => 128 - (intOf u).toNat)
      case atStart =>
        have hR : R = wr.heap.size := HR.out
        subst hR
        refine ⟨lv, a0, a1, rfl, .inl rfl, ?_, hbel.alloc (by omega) _, by simp, heap_alloc_new wr _, ha0, ha1, fun p _ => by simp; omega⟩
        unfold Box at hbox ⊢
        rw [Below.heap_alloc _ _ _ hsz]
        exact hbox
      case round =>
        obtain ⟨v, b0, b1, rfl, hv', hbox', hbel', hRs, hRc, hb0, hb1, htb'⟩ := hrel
        have hrr : wr.cell? ⟨R, 0, none⟩ = some (.int .u16 lv) ∧ wr.cell? ⟨R, 1, none⟩ = some (.int .u16 hv) := by constructor <;> simp [World.cell?, hRc]
        obtain ⟨r0, r1⟩ := hrr
        obtain ⟨-, q6, q7, z6, z7⟩ := hbox'.cell
        by_cases hgo : v ≤ hv ∧ v < 128
        · obtain ⟨e1, e2⟩ := hgo
          by_cases h64 : v < 64
          · have hq : (v : Int) / 64 = 0 := by omega
            have hq2 := and63_lo v h64
            go_wp2
            go_region
            go_wp2
            go_roundw
            case rel => exact inner_lo hbox' hbel' hRs hwR.out hRc hb0 hb1 htb' hv' e1 h64
            case measure => simp [intOf]; omega
          · have hq : (v : Int) / 64 = 1 := by omega
            have hq2 := and63_hi v e2 (by omega)
            go_wp2
            go_region
            go_wp2
            go_roundw
            case rel => exact inner_hi hbox' hbel' hRs hwR.out hRc hb0 hb1 htb' hv' e1 (by omega) e2
            case measure => simp [intOf]; omega
        · by_cases e1 : v ≤ hv
          · have e2 : ¬ v < 128 := fun h => hgo ⟨e1, h⟩
            go_wp2
            go_roundw
            case rel => exact ⟨k + 1, b0, b1, by omega, by go_num, hbox', hbel', by have := hwR.out; omega, hb0, hb1, tb_exit htb' hv' hgo HT.out HL.out HV.out⟩
            case measure => simp [intOf]; omega
          · go_wp2
            go_roundw
            case rel => exact ⟨k + 1, b0, b1, by omega, by go_num, hbox', hbel', by have := hwR.out; omega, hb0, hb1, tb_exit htb' hv' hgo HT.out HL.out HV.out⟩
            case measure => simp [intOf]; omega
    · have HT : Hid (∀ p, p < 128 → tb a0 a1 p = (tb x0 x1 p || anyR ls hs k p)) := htb
      have i0 := (hbel.cell (p := ⟨c, 0, none⟩) hb).trans h0
      have i3 := (hbel.cell (p := ⟨c, 3, none⟩) hb).trans h3
      have i5 := (hbel.cell (p := ⟨c, 5, none⟩) hb).trans h5
      have j0 := (hbel.frozen (p := ⟨c, 0, none⟩) hb).trans f0
      have j3 := (hbel.frozen (p := ⟨c, 3, none⟩) hb).trans f3
      clear htb hset h0 h3 h5 f0 f3 hls hhs
      go_upto_region 13 with fail
      go_cut [] (fun wx => wx.heap.size = wr.heap.size ∧ CBlock wx c (.slice (some ⟨g, 0, none⟩) n n) st sl (max d il) (.slice ta il ic) tl ∧ Box wx w.heap.size op out alv ar ar2 (.slice sa m sc) a0 a1 (.slice ta il ic) ∧ w.grownBy wx (some c))
      case first =>
        go_region
        go_wp2_with fail
        all_goals
          go_meet
          case rel => exact c_depth hC hbel hb hbox _ _ (by omega)
      case rest =>
        obtain ⟨hs1, hC1, hbox1, hg1⟩ := hcut
        obtain ⟨h0, h3, h5, f0, f3⟩ := hC1.cell
        obtain ⟨b0, b1, b2, b3, b4, b5, b6, b7, b8⟩ := hbox1.all
        have hgw : g < w.heap.size := (Array.getElem?_eq_some_iff.1 hG).1
        have hG1 : wc.heap[g]? = some (.cells olds.toArray 34 (0, 0)) := (hg1.block g hgw (by simpa using hgc)).trans hG
        have hcw : c < wc.heap.size := by omega
        obtain ⟨i0, hi, hz0, hz1, hz2⟩ := info_parts Yba.info34
        have HO : Hid (∀ b, some (⟨g, 0, none⟩ : Addr) = some b → ∀ j u, olds[j]? = some u → (wc.alloc (.cells (newCells op out alv ar ar2 (.slice sa m sc) a0 a1 (.slice ta il ic)).toArray 34)).drew.cell? (b.add j) = some u) := by
          intro b hb' j u hj
          obtain rfl : (⟨g, 0, none⟩ : Addr) = b := by simpa using hb'
          show (wc.alloc _).cell? _ = _
          rw [add_plain, World.cell?_alloc_past _ _ _ (by omega), cell_of_row wc g (0 + j) olds.toArray 34 (0, 0) hG1]
          simpa using hj
        have HN : Hid (∀ j u, (newCells op out alv ar ar2 (.slice sa m sc) a0 a1 (.slice ta il ic))[j]? = some u → (wc.alloc (.cells (newCells op out alv ar ar2 (.slice sa m sc) a0 a1 (.slice ta il ic)).toArray 34)).drew.cell? ((⟨wc.heap.size, 0, none⟩ : Addr).add j) = some u) := by
          intro j u hj
          show (wc.alloc _).cell? _ = _
          rw [add_plain, World.cell?_alloc_at _ _ _ _ rfl]
          simpa using hj
        have H1 : Hid (∀ u ∈ newCells op out alv ar ar2 (.slice sa m sc) a0 a1 (.slice ta il ic), u.oneCell' = true) := by
          intro u hu
          simp [newCells] at hu
          rcases hu with rfl | rfl | rfl | rfl | rfl | rfl | rfl | rfl | rfl <;> rfl
        have HL : Hid (olds.length = n * 9) := hol
        have hBw : w.heap.size < wc.heap.size := by omega
        clear hs1
        have HG1 : Hid (w.grownBy wc (some c)) := hg1
        have HC1 : Hid (CBlock wc c (.slice (some ⟨g, 0, none⟩) n n) st sl (max d il) (.slice ta il ic) tl) := hC1
        clear hol hG hG1 hC hbox1 hg1 hbox hbel hC1
        go_wp2_with fail
        go_region_law (refine step_append_grows rfl (.tmp 76) (.tmp 78) 29 rfl 34 i0 _ 9 104 Yba.underlying29 hi hz0 hz1 hz2 rfl (by decide) (some ⟨g, 0, none⟩) n n olds (by simp [Act.eval]) (by simp) HL.out HO.out ⟨wc.heap.size, 0, none⟩ 1 1 (newCells op out alv ar ar2 (.slice sa m sc) a0 a1 (.slice ta il ic)) (by simp [Act.eval]) rfl HN.out H1.out (by omega) (by simp only [maxLen]; omega) (by omega) ?_; intro v' w' hown hgrow; obtain ⟨g', cap', hv⟩ := own_form hown; subst hv; obtain ⟨k0, kf⟩ := grown_cell hcw h0 f0 hgrow; have HOW := hide' hown; have HGR := hide' hgrow; clear hown hgrow)
        all_goals
          go_wp2
          go_ret
          refine ⟨by go_num, ?_⟩
          have hkm : k = m := by omega
          exact emit_end ha0 ha1 (hkm ▸ HT.out) hBw hcw HC1.out HG1.out HOW.out HGR.out
end Go.Proofs.Ybulkdvws
