/- LawS6357CWhole: the plain side, and what lies in memory: no walk here. -/
import Derived.Test.YbulkeaqaRows
import Derived.WalkKit
import Derived.MapKept
import Derived.Deep.OwnRows
import Derived.Deep.Draws
namespace Go.Proofs.Ybulkeaqa
open Go.RowKit

/-- The slots of bucket j below i that are taken. -/
def exRow (TG : Nat → Nat → Int) (j i : Nat) : List (Nat × Nat) := ((List.range i).filter fun k => decide (2 ≤ TG j k)).map fun k => (j, k)
/-- The slots of the first j buckets that are taken, in their order. -/
def exTo (TG : Nat → Nat → Int) : Nat → List (Nat × Nat)
  | 0 => []
  | j + 1 => exTo TG j ++ exRow TG j 8
def pre (TG : Nat → Nat → Int) (j i : Nat) : List (Nat × Nat) := exTo TG j ++ exRow TG j i

theorem pre_zero (TG : Nat → Nat → Int) (j : Nat) : pre TG j 0 = exTo TG j := by simp [pre, exRow]
theorem pre_all (TG : Nat → Nat → Int) (j : Nat) : pre TG j 8 = exTo TG (j + 1) := rfl
theorem pre_hit (TG : Nat → Nat → Int) (j i : Nat) (h : 2 ≤ TG j i) : pre TG j (i + 1) = pre TG j i ++ [(j, i)] := by
  simp [pre, exRow, List.range_succ, List.filter_append, h]
theorem pre_miss (TG : Nat → Nat → Int) (j i : Nat) (h : ¬ 2 ≤ TG j i) : pre TG j (i + 1) = pre TG j i := by
  simp [pre, exRow, List.range_succ, List.filter_append, h]
theorem exRow_len (TG : Nat → Nat → Int) (j i : Nat) : (exRow TG j i).length ≤ i := by
  have := List.length_filter_le (fun k => decide (2 ≤ TG j k)) (List.range i)
  simpa [exRow] using this
theorem exTo_len (TG : Nat → Nat → Int) : ∀ j, (exTo TG j).length ≤ 8 * j
  | 0 => by simp [exTo]
  | j + 1 => by
    have h1 := exTo_len TG j
    have h2 := exRow_len TG j 8
    simp only [exTo, List.length_append]; omega
theorem pre_len (TG : Nat → Nat → Int) (j i : Nat) : (pre TG j i).length ≤ 8 * j + i := by
  have h1 := exTo_len TG j
  have h2 := exRow_len TG j i
  simp only [pre, List.length_append]; omega
theorem exRow_prefix (TG : Nat → Nat → Int) (j : Nat) {i i' : Nat} (h : i ≤ i') : exRow TG j i <+: exRow TG j i' := by
  obtain ⟨d, rfl⟩ := Nat.le.dest h
  refine ⟨(((List.range d).map (i + ·)).filter fun k => decide (2 ≤ TG j k)).map fun k => (j, k), ?_⟩
  simp [exRow, List.range_add, List.filter_append]
theorem exTo_prefix (TG : Nat → Nat → Int) {j j' : Nat} (h : j ≤ j') : exTo TG j <+: exTo TG j' := by
  induction h with
  | refl => exact List.prefix_refl _
  | step _ ih => exact ih.trans ⟨_, rfl⟩
theorem pre_prefix (TG : Nat → Nat → Int) {j i n : Nat} (hj : j < n) (hi : i ≤ 8) : pre TG j i <+: exTo TG n := by
  refine List.IsPrefix.trans ?_ (exTo_prefix TG (show j + 1 ≤ n from hj))
  obtain ⟨r, hr⟩ := exRow_prefix TG j hi
  exact ⟨r, by simp [pre, exTo, ← hr]⟩
theorem exTo_mem (TG : Nat → Nat → Int) : ∀ n, ∀ x ∈ exTo TG n, x.1 < n ∧ x.2 < 8
  | 0, x, h => by simp [exTo] at h
  | n + 1, x, h => by
    simp only [exTo, List.mem_append] at h
    rcases h with h | h
    · have := exTo_mem TG n x h; omega
    · simp only [exRow, List.mem_map, List.mem_filter, List.mem_range] at h
      obtain ⟨k, ⟨h1, _⟩, rfl⟩ := h
      exact ⟨by simp, h1⟩

/-- How many calls are wanted. -/
def wantN (lim e : Nat) : Nat := if 0 < lim ∧ lim < e then lim else e
theorem wantN_le (lim e : Nat) : wantN lim e ≤ e := by unfold wantN; split <;> omega

/-- A bucket's cells. -/
def bktA (TG : Nat → Nat → Int) (k : Nat) (ov : Option Addr) : Array Value :=
  #[.int .u8 (TG k 0), .int .u8 (TG k 1), .int .u8 (TG k 2), .int .u8 (TG k 3), .int .u8 (TG k 4), .int .u8 (TG k 5), .int .u8 (TG k 6), .int .u8 (TG k 7),
    .int .i64 k, .int .i64 0, .int .i64 0, .int .i64 0, .int .i64 0, .int .i64 0, .int .i64 0, .int .i64 0,
    .int .i64 (-k), .int .i64 0, .int .i64 0, .int .i64 0, .int .i64 0, .int .i64 0, .int .i64 0, .int .i64 0, .pointer ov]
/-- The row of pointers, the first j laid. -/
def bsA (c n j : Nat) : Array Value := (Array.range n).map fun k => if k < j then .pointer (some ⟨c + k, 0, none⟩) else .pointer none

theorem bsA_size (c n j : Nat) : (bsA c n j).size = n := by simp [bsA]
theorem bsA_get (c n j : Nat) {k : Nat} (hk : k < n) : (bsA c n j)[k]? = some (if k < j then .pointer (some ⟨c + k, 0, none⟩) else .pointer none) := by
  simp [bsA, hk]
theorem bsA_zero (c n : Nat) : bsA c n 0 = madeCells #[.pointer none] n := by
  apply Array.ext_getElem?
  intro k
  by_cases hk : k < n
  · rw [bsA_get c n 0 hk]; simp [madeCells, hk, Nat.mod_one]
  · rw [Array.getElem?_eq_none (by rw [bsA_size]; omega), Array.getElem?_eq_none (by rw [size_madeCells]; omega)]
theorem bsA_put (c n j : Nat) (hj : j < n) : (bsA c n j).setIfInBounds j (.pointer (some ⟨c + j, 0, none⟩)) = bsA c n (j + 1) := by
  apply Array.ext_getElem?
  intro k
  rw [Array.getElem?_setIfInBounds]
  by_cases hk : k < n
  · rw [bsA_get c n (j + 1) hk]
    by_cases e : j = k
    · subst e; simp [bsA_size, hj]
    · rw [if_neg e, bsA_get c n j hk]
      by_cases h2 : k < j
      · rw [if_pos h2, if_pos (by omega)]
      · rw [if_neg h2, if_neg (by omega)]
  · rw [Array.getElem?_eq_none (by rw [bsA_size]; omega)]
    by_cases e : j = k
    · omega
    · rw [if_neg e, Array.getElem?_eq_none (by rw [bsA_size]; omega)]

theorem bktA_tag (TG : Nat → Nat → Int) (k : Nat) (ov : Option Addr) {i : Nat} (hi : i < 8) : (bktA TG k ov)[i]? = some (.int .u8 (TG k i)) := by
  have : i = 0 ∨ i = 1 ∨ i = 2 ∨ i = 3 ∨ i = 4 ∨ i = 5 ∨ i = 6 ∨ i = 7 := by omega
  rcases this with rfl | rfl | rfl | rfl | rfl | rfl | rfl | rfl <;> rfl
theorem bktA_ov (TG : Nat → Nat → Int) (k : Nat) (ov : Option Addr) : (bktA TG k ov)[24]? = some (.pointer ov) := rfl
theorem bktA_put (TG : Nat → Nat → Int) (k : Nat) (ov ov' : Option Addr) : (bktA TG k ov).setIfInBounds 24 (.pointer ov') = bktA TG k ov' := rfl

theorem cell_of {w : World} {b o : Nat} {c : Array Value} {t : TypeId} {fz : Nat × Nat} {v : Value} (h : w.heap[b]? = some (.cells c t fz)) (hv : c[o]? = some v) : w.cell? ⟨b, o, none⟩ = some v := by
  simp [World.cell?, h, hv]
theorem frozen_of {w : World} {b o : Nat} {c : Array Value} {t : TypeId} (h : w.heap[b]? = some (.cells c t (0, 0))) : w.frozen? ⟨b, o, none⟩ = false := by
  simp [World.frozen?, h]
theorem set_cell_block {w : World} {b o : Nat} {c : Array Value} {t : TypeId} {fz : Nat × Nat} (v : Value) (h : w.heap[b]? = some (.cells c t fz)) : (w.setCell ⟨b, o, none⟩ v).heap[b]? = some (.cells (c.setIfInBounds o v) t fz) := by
  simp only [World.setCell, Array.getElem?_modify, if_pos, h]
  rfl
theorem set_cell_size (w : World) (a : Addr) (v : Value) : (w.setCell a v).heap.size = w.heap.size := by simp [World.setCell]

/-- What the law has made: j1 buckets, the first j2 of them chained. -/
structure Made (w wr : World) (TG : Nat → Nat → Int) (lim : Int) (n j1 j2 : Nat) : Prop where
  below : Below w.heap.size w wr
  box : wr.heap[w.heap.size]? = some (.cells #[.int .u16 lim] 60 (0, 0))
  row : wr.heap[w.heap.size + 1]? = some (.cells (bsA (w.heap.size + 2) n j1) 62 (0, 0))
  bk : ∀ k, k < j1 → wr.heap[w.heap.size + 2 + k]? = some (.cells (bktA TG k (if k < j2 then some ⟨w.heap.size + 2 + k + 1, 0, none⟩ else none)) 64 (0, 0))
  size : wr.heap.size = w.heap.size + 2 + j1

theorem made_start (w : World) (TG : Nat → Nat → Int) (lim : Int) (n : Nat) : Made w ((w.alloc (.cells #[.int .u16 lim] 60)).alloc (.cells (madeCells #[.pointer none] n) 62)) TG lim n 0 0 := by
  refine ⟨((Below.refl _ _).alloc (Nat.le_refl _) _).alloc (by simp) _, ?_, ?_, fun k hk => by omega, by simp⟩
  · rw [(MapKept.heap_alloc _ _).2 _ (by simp), (MapKept.heap_alloc w _).1]
  · have := (MapKept.heap_alloc (w.alloc (.cells #[.int .u16 lim] 60)) (.cells (madeCells #[.pointer none] n) 62)).1
    rw [World.size_alloc] at this
    rw [this, bsA_zero]

theorem made_one {w wr : World} {TG : Nat → Nat → Int} {lim : Int} {n j : Nat} (h : Made w wr TG lim n j 0) (hj : j < n) :
    Made w ((wr.setCell ⟨w.heap.size + 1, j, none⟩ (.pointer (some ⟨wr.heap.size, 0, none⟩))).alloc (.cells (bktA TG j none) 64)) TG lim n (j + 1) 0 := by
  have hz := h.size
  have hs := set_cell_size wr ⟨w.heap.size + 1, j, none⟩ (.pointer (some ⟨wr.heap.size, 0, none⟩))
  have old : ∀ k, k < wr.heap.size → ((wr.setCell ⟨w.heap.size + 1, j, none⟩ (.pointer (some ⟨wr.heap.size, 0, none⟩))).alloc (.cells (bktA TG j none) 64)).heap[k]? = (wr.setCell ⟨w.heap.size + 1, j, none⟩ (.pointer (some ⟨wr.heap.size, 0, none⟩))).heap[k]? := fun k hk => (MapKept.heap_alloc _ _).2 k (by rw [hs]; exact hk)
  have other : ∀ k, k ≠ w.heap.size + 1 → (wr.setCell ⟨w.heap.size + 1, j, none⟩ (.pointer (some ⟨wr.heap.size, 0, none⟩))).heap[k]? = wr.heap[k]? := fun k hk => Below.heap_setCell _ _ _ _ hk
  refine ⟨(h.below.setCell (p := ⟨w.heap.size + 1, j, none⟩) (by simp) _).alloc (by rw [hs]; omega) _, ?_, ?_, ?_, by rw [World.size_alloc, hs]; omega⟩
  · rw [old _ (by omega), other _ (by omega)]; exact h.box
  · rw [old _ (by omega), set_cell_block _ h.row, hz, bsA_put _ _ _ hj]
  · intro k hk
    by_cases e : k = j
    · subst e
      have := (MapKept.heap_alloc (wr.setCell ⟨w.heap.size + 1, k, none⟩ (.pointer (some ⟨wr.heap.size, 0, none⟩))) (.cells (bktA TG k none) 64)).1
      rw [hs, hz] at this
      rw [hz, this]
      simp
    · rw [old _ (by omega), other _ (by omega)]; exact h.bk k (by omega)

theorem made_link {w wr : World} {TG : Nat → Nat → Int} {lim : Int} {n j : Nat} (h : Made w wr TG lim n n j) (hj : j + 1 < n) (q : Nat) :
    Made w ((wr.setCell ⟨w.heap.size + 2 + j, 24, none⟩ (.pointer (some ⟨w.heap.size + 2 + (j + 1), 0, none⟩))).drewN q) TG lim n n (j + 1) := by
  have hs := set_cell_size wr ⟨w.heap.size + 2 + j, 24, none⟩ (.pointer (some ⟨w.heap.size + 2 + (j + 1), 0, none⟩))
  have other : ∀ k, k ≠ w.heap.size + 2 + j → (wr.setCell ⟨w.heap.size + 2 + j, 24, none⟩ (.pointer (some ⟨w.heap.size + 2 + (j + 1), 0, none⟩))).heap[k]? = wr.heap[k]? := fun k hk => Below.heap_setCell _ _ _ _ hk
  have b := h.below.setCell (p := ⟨w.heap.size + 2 + j, 24, none⟩) (show w.heap.size ≤ w.heap.size + 2 + j by omega) (.pointer (some ⟨w.heap.size + 2 + (j + 1), 0, none⟩))
  refine ⟨⟨b.os, b.tape, b.output, b.size, b.block⟩, ?_, ?_, ?_, by rw [World.heap_drewN, hs]; exact h.size⟩
  · rw [World.heap_drewN, other _ (by omega)]; exact h.box
  · rw [World.heap_drewN, other _ (by omega)]; exact h.row
  · intro k hk
    rw [World.heap_drewN]
    by_cases e : k = j
    · subst e
      have := h.bk k hk
      rw [set_cell_block _ this, bktA_put, if_pos (by omega)]
      rfl
    · rw [other _ (by omega), h.bk k hk]
      by_cases h1 : k < j
      · rw [if_pos h1, if_pos (by omega)]
      · rw [if_neg h1, if_neg (by omega)]

theorem Made.done {w wr : World} {TG : Nat → Nat → Int} {lim : Int} {n i : Nat} (h : Made w wr TG lim n n i) (h1 : i = 0 ∨ i + 1 ≤ n) (h2 : ¬ i + 1 < n) : Made w wr TG lim n n (n - 1) := by
  have : i = n - 1 := by omega
  rw [← this]; exact h

/-- Where the chain's bucket k lies; nil behind the last. -/
def ptrAt (c n k : Nat) : Option Addr := if k < n then some ⟨c + k, 0, none⟩ else none

theorem Made.next {w wr : World} {TG : Nat → Nat → Int} {lim : Int} {n k : Nat} (h : Made w wr TG lim n n (n - 1)) (hk : k < n) : wr.heap[w.heap.size + 2 + k]? = some (.cells (bktA TG k (ptrAt (w.heap.size + 2) n (k + 1))) 64 (0, 0)) := by
  rw [h.bk k hk]
  unfold ptrAt
  by_cases h1 : k < n - 1
  · rw [if_pos h1, if_pos (by omega)]; rfl
  · rw [if_neg h1, if_neg (by omega)]

/-- Two rows of ints that the call owns, apart. -/
structure Two (w : World) (base : Nat) (u v : Value) (xs ys : List Value) : Prop where
  fst : w.ownsRow base 3 1 u xs.length xs
  snd : w.ownsRow base 3 1 v ys.length ys
  ne : u.ownBlock = none ∨ v.ownBlock = none ∨ u.ownBlock ≠ v.ownBlock

theorem two_nil (w : World) (base : Nat) : Two w base (.slice none 0 0) (.slice none 0 0) [] [] := ⟨World.ownsRow_nil _ _ _ _, World.ownsRow_nil _ _ _ _, .inl rfl⟩

theorem Two.left {w w1 : World} {base : Nat} {u v u' : Value} {xs ys : List Value} {x : Value} {o : Obj} (h : Two w base u v xs ys) (hg : (w.alloc o).grownBy w1 u.ownBlock) (ho : w1.ownsRow base 3 1 u' (xs.length + 1) (xs ++ [x]))
    (hl : u'.ownBlock = u.ownBlock ∨ u'.ownBlock = some (w.alloc o).heap.size) : Two w1 base u' v (xs ++ [x]) ys := by
  have hv : v.ownBlock = none ∨ v.ownBlock ≠ u.ownBlock := by
    rcases h.ne with e | e | e
    · rw [e]
      cases hb : v.ownBlock with
      | none => exact .inl rfl
      | some b => exact .inr (by simp)
    · exact .inl e
    · exact .inr (Ne.symm e)
  refine ⟨by simpa using ho, (h.snd.alloc o).kept hg hv, ?_⟩
  rcases hv with hv | hv
  · exact .inr (.inl hv)
  · rcases hl with hl | hl
    · right; right; rw [hl]; exact Ne.symm hv
    · right; right; rw [hl]
      intro e
      have := (h.snd.lt _ e.symm).2
      simp at this
      omega

theorem Two.right {w w1 : World} {base : Nat} {u v v' : Value} {xs ys : List Value} {x : Value} {o : Obj} (h : Two w base u v xs ys) (hg : (w.alloc o).grownBy w1 v.ownBlock) (ho : w1.ownsRow base 3 1 v' (ys.length + 1) (ys ++ [x]))
    (hl : v'.ownBlock = v.ownBlock ∨ v'.ownBlock = some (w.alloc o).heap.size) : Two w1 base u v' xs (ys ++ [x]) := by
  have h' : Two w base v u ys xs := ⟨h.snd, h.fst, by
    rcases h.ne with e | e | e
    · exact .inr (.inl e)
    · exact .inl e
    · exact .inr (.inr (Ne.symm e))⟩
  have r := h'.left hg ho hl
  exact ⟨r.snd, r.fst, by
    rcases r.ne with e | e | e
    · exact .inr (.inl e)
    · exact .inl e
    · exact .inr (.inr (Ne.symm e))⟩

def fsts (l : List (Nat × Nat)) : List Value := l.map fun x => Value.int .i64 (x.1 : Int)
def snds (l : List (Nat × Nat)) : List Value := l.map fun x => Value.int .i64 (x.2 : Int)
theorem fsts_len (l : List (Nat × Nat)) : (fsts l).length = l.length := by simp [fsts]
theorem snds_len (l : List (Nat × Nat)) : (snds l).length = l.length := by simp [snds]
theorem fsts_snoc (l : List (Nat × Nat)) (x : Nat × Nat) : fsts (l ++ [x]) = fsts l ++ [Value.int .i64 (x.1 : Int)] := by simp [fsts]
theorem snds_snoc (l : List (Nat × Nat)) (x : Nat × Nat) : snds (l ++ [x]) = snds l ++ [Value.int .i64 (x.2 : Int)] := by simp [snds]
end Go.Proofs.Ybulkeaqa
