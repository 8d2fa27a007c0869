/- LawS6357AWhole: the long table. -/
import Derived.Test.YbulkeaqaDoorSmall
namespace Go.Proofs.YbulkeaqaDoor
open Go.RowKit
set_option linter.unusedSimpArgs false

/-- The row of pieces, the first j laid. -/
def bsA (c n j : Nat) : Array Value := (Array.range n).map fun k => if k < j then .pointer (some ⟨c + k, 0, none⟩) else .pointer none

theorem bsA_size (c n j : Nat) : (bsA c n j).size = n := by simp [bsA]
theorem bsA_get (c n j : Nat) {k : Nat} (hk : k < n) : (bsA c n j)[k]? = some (if k < j then .pointer (some ⟨c + k, 0, none⟩) else .pointer none) := by
  simp [bsA, hk]
theorem bsA_zero (c n : Nat) : bsA c n 0 = madeCells #[.pointer none] n := by
  apply Array.ext_getElem?
  intro k
  by_cases hk : k < n
  · rw [bsA_get c n 0 hk]; simp [madeCells, hk, Nat.mod_one]
  · rw [Array.getElem?_eq_none (by rw [bsA_size]; omega), Array.getElem?_eq_none (by rw [size_madeCells]; omega)]
theorem bsA_put (c n j : Nat) (hj : j < n) : (bsA c n j).setIfInBounds j (.pointer (some ⟨c + j, 0, none⟩)) = bsA c n (j + 1) := by
  apply Array.ext_getElem?
  intro k
  rw [Array.getElem?_setIfInBounds]
  by_cases hk : k < n
  · rw [bsA_get c n (j + 1) hk]
    by_cases e : j = k
    · subst e; simp [bsA_size, hj]
    · rw [if_neg e, bsA_get c n j hk]
      by_cases h2 : k < j
      · rw [if_pos h2, if_pos (by omega)]
      · rw [if_neg h2, if_neg (by omega)]
  · rw [Array.getElem?_eq_none (by rw [bsA_size]; omega)]
    by_cases e : j = k
    · omega
    · rw [if_neg e, Array.getElem?_eq_none (by rw [bsA_size]; omega)]

theorem wpList_alloc34 {ops : Array Oper} {rest : List Oper} {o : Oper} {a : Act} {w : World} {Q : Exit → Act → World → Prop} (hgd : o.guard = none) (ho : o.op = .alloc 34)
    (h : wpList Ybad.prog ops Q rest (a.put o.dst (.pointer (some ⟨w.heap.size, 0, none⟩))) (w.alloc (.cells Z34 34))) : wpList Ybad.prog ops Q (o :: rest) a w :=
  wpList_plain hgd fun _ hK => by
    unfold Oper.wp execOp
    simp only [ho, Sem.run_bind, alloc34, Result.andThen_ok, Sem.run_pure]
    exact hK _ _ h

/-- The table cells. -/
def tabA (n b m r : Nat) : Array Value := #[.int .i64 n, .slice none 0 0, .slice (some ⟨b, 0, none⟩) m m, .int .i64 r]

/-- The long table, its first j pieces laid. -/
structure Big (w wr : World) (T b m n r j : Nat) : Prop where
  below : Below w.heap.size w wr
  lo : w.heap.size ≤ b
  hi : b < T
  tab : wr.heap[T]? = some (.cells (tabA n b m r) 26 (0, 0))
  row : wr.heap[b]? = some (.cells (bsA (T + 1) m j) 28 (0, 0))
  pc : ∀ k, k < j → wr.heap[T + 1 + k]? = some (.cells Z34 34 (0, 0))
  size : wr.heap.size = T + 1 + j

theorem big_start {w w1 : World} {b m n r : Nat} (hb : Below w.heap.size w w1) (hlo : w.heap.size ≤ b) (hhi : b < w1.heap.size) (hrow : w1.heap[b]? = some (.cells (madeCells #[.pointer none] m) 28 (0, 0))) :
    Big w (w1.alloc (.cells (tabA n b m r) 26)) w1.heap.size b m n r 0 :=
  ⟨hb.alloc hb.size _, hlo, hhi, (MapKept.heap_alloc w1 _).1, by rw [(MapKept.heap_alloc w1 _).2 b hhi, hrow, bsA_zero], fun k hk => by omega, by simp⟩

theorem big_one {w wr : World} {T b m n r j : Nat} (h : Big w wr T b m n r j) (hj : j < m) :
    Big w ((wr.setCell ⟨b, j, none⟩ (.pointer (some ⟨wr.heap.size, 0, none⟩))).alloc (.cells Z34 34)) T b m n r (j + 1) := by
  have hz := h.size
  have hlo := h.lo
  have hhi := h.hi
  have hs := set_cell_size wr ⟨b, j, none⟩ (.pointer (some ⟨wr.heap.size, 0, none⟩))
  have old : ∀ k, k < wr.heap.size → ((wr.setCell ⟨b, j, none⟩ (.pointer (some ⟨wr.heap.size, 0, none⟩))).alloc (.cells Z34 34)).heap[k]? = (wr.setCell ⟨b, j, none⟩ (.pointer (some ⟨wr.heap.size, 0, none⟩))).heap[k]? := fun k hk => (MapKept.heap_alloc _ _).2 k (by rw [hs]; exact hk)
  have other : ∀ k, k ≠ b → (wr.setCell ⟨b, j, none⟩ (.pointer (some ⟨wr.heap.size, 0, none⟩))).heap[k]? = wr.heap[k]? := fun k hk => Below.heap_setCell _ _ _ _ hk
  refine ⟨(h.below.setCell (p := ⟨b, j, none⟩) hlo _).alloc (by rw [hs]; omega) _, hlo, hhi, ?_, ?_, ?_, by rw [World.size_alloc, hs]; omega⟩
  · rw [old _ (by omega), other _ (by omega)]; exact h.tab
  · rw [old _ (by omega), set_cell_block _ h.row, hz, bsA_put _ _ _ hj]
  · intro k hk
    by_cases e : k = j
    · subst e
      have := (MapKept.heap_alloc (wr.setCell ⟨b, k, none⟩ (.pointer (some ⟨wr.heap.size, 0, none⟩))) (.cells Z34 34)).1
      rw [hs, hz] at this
      rw [hz, this]
    · rw [old _ (by omega), other _ (by omega)]; exact h.pc k (by omega)

def ptrsL (c m : Nat) : List Value := (List.range m).map fun k => Value.pointer (some ⟨c + k, 0, none⟩)

theorem row_get {w : World} {base n k : Nat} {e : TypeId} {v x : Value} {xs : List Value} (h : w.ownsRow base e 1 v n xs) (hk : xs[k]? = some x) : ∃ g c, v = .slice (some ⟨g, 0, none⟩) n c ∧ w.cell? ⟨g, k, none⟩ = some x := by
  have hlt : k < xs.length := (List.getElem?_eq_some_iff.mp hk).1
  obtain ⟨h1, h2⟩ := h
  rcases h2 with ⟨rfl, h⟩ | ⟨g, cap, cur, rfl, hg, hh, r1, r2, r3, r4⟩
  · omega
  · refine ⟨g, cap, rfl, ?_⟩
    have e := congrArg (fun x => x[k]?) r4
    simp only [Nat.mul_one, List.getElem?_take, show k < n by omega, if_true, hk] at e
    refine cell_of hh ?_
    rw [← Array.getElem?_toList, e]

/-- The copy of the row of pieces, and what stands beside it. -/
theorem after_clone {w wr w2 : World} {T b m n r : Nat} {v : Value} (h : Big w wr T b m n r m) (hm : 0 < m) (ho : w2.ownsRow wr.heap.size 28 1 v m (ptrsL (T + 1) m)) (hb : Below wr.heap.size wr w2) :
    ∃ g c, v = .slice (some ⟨g, 0, none⟩) m c ∧ (∀ k, k < m → w2.cell? ⟨g, k, none⟩ = some (.pointer (some ⟨T + 1 + k, 0, none⟩))) ∧ (∀ k, k < m → w2.cell? ⟨b, k, none⟩ = some (.pointer (some ⟨T + 1 + k, 0, none⟩))) ∧
      w2.heap[T]? = some (.cells (tabA n b m r) 26 (0, 0)) ∧ (∀ k, k < m → w2.heap[T + 1 + k]? = some (.cells Z34 34 (0, 0))) ∧ Below w.heap.size w w2 := by
  have hz := h.size
  have hhi := h.hi
  obtain ⟨g, c, rfl, _⟩ := row_get (k := 0) ho (by unfold ptrsL; rw [List.getElem?_map, List.getElem?_range hm]; rfl)
  refine ⟨g, c, rfl, fun k hk => ?_, fun k hk => ?_, ?_, fun k hk => ?_, ?_⟩
  · obtain ⟨g', c', e, hc⟩ := row_get (k := k) ho (by unfold ptrsL; rw [List.getElem?_map, List.getElem?_range hk]; rfl)
    cases e
    exact hc
  · have := cell_of ((hb.block b (by omega)).trans h.row) (bsA_get _ _ m hk)
    rw [if_pos hk] at this
    exact this
  · exact (hb.block T (by omega)).trans h.tab
  · exact (hb.block _ (by omega)).trans (h.pc k hk)
  · exact ⟨hb.os.trans h.below.os, hb.tape.trans h.below.tape, hb.output.trans h.below.output, Nat.le_trans h.below.size hb.size, fun x hx => (hb.block x (by have := h.below.size; omega)).trans (h.below.block x hx)⟩

theorem ptrsL_one {c m : Nat} {u : Value} (h : u ∈ ptrsL c m) : u.oneCell' = true := by
  unfold ptrsL at h
  obtain ⟨k, _, rfl⟩ := List.mem_map.1 h
  rfl

theorem big_cell {w wr : World} {T b m n r k : Nat} {u : Value} (h : Big w wr T b m n r m) (hu : (ptrsL (T + 1) m)[k]? = some u) : wr.cell? ⟨b, k, none⟩ = some u := by
  have hk : k < m := by
    have := (List.getElem?_eq_some_iff.1 hu).1
    simpa [ptrsL] using this
  have := cell_of h.row (bsA_get _ _ m hk)
  rw [if_pos hk] at this
  rw [this, ← hu]
  unfold ptrsL
  rw [List.getElem?_map, List.getElem?_range hk]
  rfl

set_option maxRecDepth 100000 in
set_option maxHeartbeats 2000000 in
theorem law_hi (k i : Int) (e n m h r q p idx : Nat) (w : World) (hk : k % 2 = 1) (k0 : 0 ≤ k) (k1 : k ≤ 255) (he : 10 + k / 2 % 5 = e) (he10 : 10 ≤ e) (he14 : e ≤ 14) (hr : e = r + 1) (hn : (2 : Int) ^ e = n) (hnN : 2 ^ e = n) (hm : m * 512 = n) (hh : (n : Int).tdiv 2 = h) (hn1 : 512 < n) (hn2 : n ≤ 16384)
    (hidx : (IntKind.u64.wrap i).tmod (n : Int) = idx) (hlt : idx < n) (hq : (2 * (idx : Int)).tmod n = q) (hqb : q < 16384) (hpq : (q : Int) + 1 = p) (hle : h ≤ idx) (hpn : p < n) (hpos : pos (2 ^ e) (2 ^ (e - 1)) idx = p) (h1 : 1 < w.heap.size)
    (hz : ∀ W, (∀ o, W.cell? ⟨1, o, none⟩ = w.cell? ⟨1, o, none⟩) → Calls Ybad.prog 8 #[.int .u64 n] W fun e W' => e = .returned (.int .i64 ((r : Int) + 1)) ∧ W = W') :
    Calls Ybad.prog 3 #[.int .u8 k, .int .i64 i] w fun e w' => e = .returned (.bool true) ∧ Below w.heap.size w w' := by
  have hd : decide ((512 : Int) < (n : Int)) = true := by simp; omega
  have hd2 : decide ((n : Int) ≤ 512) = false := by simp; omega
  have hMk : Hid _ := make_big n m r w hn1 hn2 (by omega) (by omega) h1 hz
  have hpm : p / 512 < m := by omega
  have hm32 : m ≤ 32 := by omega
  have hm0 : 0 < m := by omega
  have hr20 : r ≤ 20 := by omega
  have HA : Hid (∀ (T b : Nat) (W : World), W.cell? ⟨T, 0, none⟩ = some (.int .i64 n) → W.cell? ⟨T, 3, none⟩ = some (.int .i64 r) → W.cell? ⟨T, 2, none⟩ = some (.slice (some ⟨b, 0, none⟩) m m) → (∀ k, k < m → W.cell? ⟨b, k, none⟩ = some (.pointer (some ⟨T + 1 + k, 0, none⟩))) →
      Calls Ybad.prog 6 #[.pointer (some ⟨T, 0, none⟩), .int .i64 idx] W fun x w' => x = .returned (.pointer (some ⟨T + 1 + p / 512, p % 512 * 25, none⟩)) ∧ ∃ q, w' = W.drewN q) := by
    intro T b W g0 g3 g2 gb
    have := at_big T b (T + 1) m e idx W he10 he14 (by rw [hnN]; exact hm) (by rw [hnN]; exact hlt) (by rw [hn]; exact g0) (by rw [show e - 1 = r by omega]; exact g3) g2 gb
    rw [hpos] at this
    exact this
  clear hz hnN hr hm hpos
  go_enter Ybad.func3, Ybad.ntmps3
  go_wp2_with (go_at_call 4; refine Calls.mono hMk.out ?_; rintro e' w1 ⟨b, rfl, hrow, hlo, hhi, hbel⟩; have HB : Hid _ := big_start (n := n) (r := r) hbel hlo hhi hrow; clear hrow hbel)
  go_loopw [9] (fun v wr => ∃ j : Nat, j ≤ m ∧ v = .int .i64 j ∧ Big w wr w1.heap.size b m n r j) (fun v _ => m - (intOf v).toNat)
  case atStart => exact ⟨0, Nat.zero_le _, rfl, HB.out⟩
  case round =>
    clear HB
    obtain ⟨j, hj, rfl, hB⟩ := hrel
    have HJ : Hid (Big w wr w1.heap.size b m n r j) := hB
    have ct := cell_of (o := 2) (v := .slice (some ⟨b, 0, none⟩) m m) hB.tab rfl
    by_cases hltj : j < m
    · have cr := cell_of hB.row (bsA_get _ _ j hltj)
      rw [if_neg (by omega)] at cr
      have fr := frozen_of (o := j) hB.row
      have hzb : b < wr.heap.size := by have := hB.size; have := hB.hi; omega
      clear hB
      go_wp2_with (refine wpList_alloc34 rfl rfl ?_)
      exact ⟨⟨j + 1, by omega, by go_num, big_one HJ.out hltj⟩, by simp [intOf]; omega⟩
    · have ej : m = j := by omega
      subst ej
      have c1 := cell_of (o := 1) (v := .slice none 0 0) hB.tab rfl
      have hbz : b < wr.heap.size := by have := hB.size; have := hB.hi; omega
      have HC : Hid _ := clone_row b m (ptrsL (w1.heap.size + 1) m) wr (by simp [ptrsL]) (by omega) (fun k u hu => big_cell HJ.out hu) (fun u hu => ptrsL_one hu) hbz
      clear hB
      go_wp2_with (first
        | (go_at_call 5; refine Calls.mono HC.out ?_; rintro e' w2 ⟨v, rfl, ho, hb⟩; obtain ⟨g, cg, rfl, x1, x2, x3, x4, x5⟩ := after_clone HJ.out hm0 ho hb; have d0 := cell_of (o := 0) (v := .int .i64 n) x3 rfl; have d1 := cell_of (o := 1) (v := .slice none 0 0) x3 rfl; have d2 := cell_of (o := 2) (v := .slice (some ⟨b, 0, none⟩) m m) x3 rfl; have d3 := cell_of (o := 3) (v := .int .i64 r) x3 rfl; have db := x2 (p / 512) hpm; have HX1 : Hid _ := x1; have HX2 : Hid _ := x2; have HX5 : Hid (Below w.heap.size w w2) := x5; have HX4 : Hid (w2.rangeAt (w1.heap.size + 1 + p / 512) (p % 512 * 25) zl) := zl_range (x4 (p / 512) hpm) (fun k hk => Z34_get (by omega) hk); clear x1 x2 x3 x4 x5 ho hb ct c1)
        | (go_at_call 6; refine (HA.out w1.heap.size b w2 d0 d3 d2 HX2.out).mono ?_; rintro e' w3 ⟨rfl, nd, rfl⟩)
        | (refine wpList_load_mid rfl 32 (.tmp 106) rfl (w1.heap.size + 1 + p / 512) (p % 512 * 25) rfl [.int .u8 0, .int .u8 0, .int .u8 0, .int .u8 0, .int .u8 0, .int .u8 0, .int .u8 0, .int .u8 0, .int .u8 0, .int .u8 0, .int .u8 0, .int .u8 0, .int .u8 0, .int .u8 0, .int .u8 0, .int .u8 0, .int .u8 0, .int .u8 0, .int .u8 0, .int .u8 0, .int .u8 0, .int .u8 0, .int .u8 0, .int .u8 0, .pointer none] _ HX4.out Ybad.underlying32 rfl (by kernel_rfl) ?_))
      go_quiet (fail)
      go_wp2_with (go_at_call 7; refine (equal_row b g m cg (fun k => ⟨w1.heap.size + 1 + k, 0, none⟩) _ (by omega) (by exact HX2.out) (by exact HX1.out)).mono ?_; rintro e' w4 ⟨rfl, nd2, rfl⟩)
      go_ret
      have b5 := HX5.out
      exact ⟨rfl, b5.os, b5.tape, b5.output, b5.size, b5.block⟩

set_option maxRecDepth 100000 in
set_option maxHeartbeats 2000000 in
theorem law_lo (k i : Int) (e n m h r p idx : Nat) (w : World) (hk : k % 2 = 1) (k0 : 0 ≤ k) (k1 : k ≤ 255) (he : 10 + k / 2 % 5 = e) (he10 : 10 ≤ e) (he14 : e ≤ 14) (hr : e = r + 1) (hn : (2 : Int) ^ e = n) (hnN : 2 ^ e = n) (hm : m * 512 = n) (hh : (n : Int).tdiv 2 = h) (hn1 : 512 < n) (hn2 : n ≤ 16384)
    (hidx : (IntKind.u64.wrap i).tmod (n : Int) = idx) (hlt : idx < n) (hq : (2 * (idx : Int)).tmod n = p) (hle : idx < h) (hhb : h ≤ 16384) (hpn : p < n) (hpos : pos (2 ^ e) (2 ^ (e - 1)) idx = p) (h1 : 1 < w.heap.size)
    (hz : ∀ W, (∀ o, W.cell? ⟨1, o, none⟩ = w.cell? ⟨1, o, none⟩) → Calls Ybad.prog 8 #[.int .u64 n] W fun e W' => e = .returned (.int .i64 ((r : Int) + 1)) ∧ W = W') :
    Calls Ybad.prog 3 #[.int .u8 k, .int .i64 i] w fun e w' => e = .returned (.bool true) ∧ Below w.heap.size w w' := by
  have hd : decide ((512 : Int) < (n : Int)) = true := by simp; omega
  have hd2 : decide ((n : Int) ≤ 512) = false := by simp; omega
  have hMk : Hid _ := make_big n m r w hn1 hn2 (by omega) (by omega) h1 hz
  have hpm : p / 512 < m := by omega
  have hm32 : m ≤ 32 := by omega
  have hm0 : 0 < m := by omega
  have hr20 : r ≤ 20 := by omega
  have HA : Hid (∀ (T b : Nat) (W : World), W.cell? ⟨T, 0, none⟩ = some (.int .i64 n) → W.cell? ⟨T, 3, none⟩ = some (.int .i64 r) → W.cell? ⟨T, 2, none⟩ = some (.slice (some ⟨b, 0, none⟩) m m) → (∀ k, k < m → W.cell? ⟨b, k, none⟩ = some (.pointer (some ⟨T + 1 + k, 0, none⟩))) →
      Calls Ybad.prog 6 #[.pointer (some ⟨T, 0, none⟩), .int .i64 idx] W fun x w' => x = .returned (.pointer (some ⟨T + 1 + p / 512, p % 512 * 25, none⟩)) ∧ ∃ q, w' = W.drewN q) := by
    intro T b W g0 g3 g2 gb
    have := at_big T b (T + 1) m e idx W he10 he14 (by rw [hnN]; exact hm) (by rw [hnN]; exact hlt) (by rw [hn]; exact g0) (by rw [show e - 1 = r by omega]; exact g3) g2 gb
    rw [hpos] at this
    exact this
  clear hz hnN hr hm hpos
  go_enter Ybad.func3, Ybad.ntmps3
  go_wp2_with (go_at_call 4; refine Calls.mono hMk.out ?_; rintro e' w1 ⟨b, rfl, hrow, hlo, hhi, hbel⟩; have HB : Hid _ := big_start (n := n) (r := r) hbel hlo hhi hrow; clear hrow hbel)
  go_loopw [9] (fun v wr => ∃ j : Nat, j ≤ m ∧ v = .int .i64 j ∧ Big w wr w1.heap.size b m n r j) (fun v _ => m - (intOf v).toNat)
  case atStart => exact ⟨0, Nat.zero_le _, rfl, HB.out⟩
  case round =>
    clear HB
    obtain ⟨j, hj, rfl, hB⟩ := hrel
    have HJ : Hid (Big w wr w1.heap.size b m n r j) := hB
    have ct := cell_of (o := 2) (v := .slice (some ⟨b, 0, none⟩) m m) hB.tab rfl
    by_cases hltj : j < m
    · have cr := cell_of hB.row (bsA_get _ _ j hltj)
      rw [if_neg (by omega)] at cr
      have fr := frozen_of (o := j) hB.row
      have hzb : b < wr.heap.size := by have := hB.size; have := hB.hi; omega
      clear hB
      go_wp2_with (refine wpList_alloc34 rfl rfl ?_)
      exact ⟨⟨j + 1, by omega, by go_num, big_one HJ.out hltj⟩, by simp [intOf]; omega⟩
    · have ej : m = j := by omega
      subst ej
      have c1 := cell_of (o := 1) (v := .slice none 0 0) hB.tab rfl
      have hbz : b < wr.heap.size := by have := hB.size; have := hB.hi; omega
      have HC : Hid _ := clone_row b m (ptrsL (w1.heap.size + 1) m) wr (by simp [ptrsL]) (by omega) (fun k u hu => big_cell HJ.out hu) (fun u hu => ptrsL_one hu) hbz
      clear hB
      go_wp2_with (first
        | (go_at_call 5; refine Calls.mono HC.out ?_; rintro e' w2 ⟨v, rfl, ho, hb⟩; obtain ⟨g, cg, rfl, x1, x2, x3, x4, x5⟩ := after_clone HJ.out hm0 ho hb; have d0 := cell_of (o := 0) (v := .int .i64 n) x3 rfl; have d1 := cell_of (o := 1) (v := .slice none 0 0) x3 rfl; have d2 := cell_of (o := 2) (v := .slice (some ⟨b, 0, none⟩) m m) x3 rfl; have d3 := cell_of (o := 3) (v := .int .i64 r) x3 rfl; have db := x2 (p / 512) hpm; have HX1 : Hid _ := x1; have HX2 : Hid _ := x2; have HX5 : Hid (Below w.heap.size w w2) := x5; have HX4 : Hid (w2.rangeAt (w1.heap.size + 1 + p / 512) (p % 512 * 25) zl) := zl_range (x4 (p / 512) hpm) (fun k hk => Z34_get (by omega) hk); clear x1 x2 x3 x4 x5 ho hb ct c1)
        | (go_at_call 6; refine (HA.out w1.heap.size b w2 d0 d3 d2 HX2.out).mono ?_; rintro e' w3 ⟨rfl, nd, rfl⟩)
        | (refine wpList_load_mid rfl 32 (.tmp 106) rfl (w1.heap.size + 1 + p / 512) (p % 512 * 25) rfl [.int .u8 0, .int .u8 0, .int .u8 0, .int .u8 0, .int .u8 0, .int .u8 0, .int .u8 0, .int .u8 0, .int .u8 0, .int .u8 0, .int .u8 0, .int .u8 0, .int .u8 0, .int .u8 0, .int .u8 0, .int .u8 0, .int .u8 0, .int .u8 0, .int .u8 0, .int .u8 0, .int .u8 0, .int .u8 0, .int .u8 0, .int .u8 0, .pointer none] _ HX4.out Ybad.underlying32 rfl (by kernel_rfl) ?_))
      go_quiet (fail)
      go_wp2_with (go_at_call 7; refine (equal_row b g m cg (fun k => ⟨w1.heap.size + 1 + k, 0, none⟩) _ (by omega) (by exact HX2.out) (by exact HX1.out)).mono ?_; rintro e' w4 ⟨rfl, nd2, rfl⟩)
      go_ret
      have b5 := HX5.out
      exact ⟨rfl, b5.os, b5.tape, b5.output, b5.size, b5.block⟩

end Go.Proofs.YbulkeaqaDoor
