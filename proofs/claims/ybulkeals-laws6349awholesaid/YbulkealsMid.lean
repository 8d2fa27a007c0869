/- Between two steps of the law's script: no walk here. -/
import Derived.Test.YbulkealsLaw
namespace Go.Proofs.Ybulkeals
open Go.RowKit Go.MapKept Go.Maps Go.Sort Go.Shelf

theorem Idx.kept {w w' : World} {B X : Nat} {H : Nat → Nat → Bool} {M : Nat → Bool} {fh : ByteArray → Option Value} (h : Idx w B X H M fh) (hX : B ≤ X) (hk : ∀ k, B ≤ k → k < w.heap.size → w'.heap[k]? = w.heap[k]?) : Idx w' B X H M fh := by
  obtain ⟨bh, bo, bm, fo, fm, h⟩ := h
  refine ⟨bh, bo, bm, fo, fm, by rw [hk X hX (Array.getElem?_eq_some_iff.1 h.cell).1]; exact h.cell, h.mh.of_block (hk _ h.lh h.mh.lt), h.mo.of_block (hk _ h.lo h.mo.lt), h.mm.of_block (hk _ h.lm h.mm.lt), h.ho, h.hm, h.om, h.lh, h.lo, h.lm, h.key.one, ?_, h.key.sep, h.key.far⟩
  intro j hj hM
  obtain ⟨h1, s, g, h2, h3, h4, h5⟩ := h.key.many j hj hM
  exact ⟨h1, s, g, h2, h3.of_block (hk _ h4 h3.lt), h4, h5⟩

theorem HeldAt.kept {w w' : World} {fh : ByteArray → Option Value} {L : Nat → List Nat} (h : HeldAt w fh L) (hk : ∀ (k : Nat) (c : Array Value), w.heap[k]? = some (Obj.cells c 9 (0, 0)) → w'.heap[k]? = w.heap[k]?) : HeldAt w' fh L := fun i hi => by
  obtain ⟨h1, h2⟩ := h i hi
  refine ⟨h1, h2.imp id ?_⟩
  rintro ⟨v, hv, g, cap, cur, r1, r2, r3⟩
  exact ⟨v, hv, g, cap, cur, r1, (hk g cur r2).trans r2, r3⟩

theorem set_cell_block {w : World} {b o : Nat} {c : Array Value} {t : TypeId} {fz : Nat × Nat} (v : Value) (h : w.heap[b]? = some (.cells c t fz)) : (w.setCell ⟨b, o, none⟩ v).heap[b]? = some (.cells (c.setIfInBounds o v) t fz) := by
  simp only [World.setCell, Array.getElem?_modify, if_pos, h]
  rfl

theorem cell_of {w : World} {b o : Nat} {c : Array Value} {t : TypeId} {fz : Nat × Nat} {v : Value} (h : w.heap[b]? = some (.cells c t fz)) (hv : c[o]? = some v) : w.cell? ⟨b, o, none⟩ = some v := by
  simp [World.cell?, h, hv]
theorem frozen_of {w : World} {b o : Nat} {c : Array Value} {t : TypeId} (h : w.heap[b]? = some (.cells c t (0, 0))) : w.frozen? ⟨b, o, none⟩ = false := by
  simp [World.frozen?, h]

/-- The steps, as they lie in w. -/
structure Steps6 (w : World) (sA : Option Addr) (sb so n : Nat) (ID : Nat → Int) (KA : Nat → Option Addr) (kb ko KL KC : Nat → Nat) (KZ : Nat → Nat → Int) : Prop where
  at_ : 0 < n → sA = some ⟨sb, so, none⟩ ∧ sb < w.heap.size
  id : ∀ s, s < n → w.cell? ⟨sb, so + s * 2, none⟩ = some (.int .u8 (ID s)) ∧ 0 ≤ ID s ∧ ID s ≤ 255
  keys : ∀ s, s < n → w.cell? ⟨sb, so + s * 2 + 1, none⟩ = some (.slice (KA s) (KL s) (KC s))
  kat : ∀ s, s < n → 0 < KL s → KA s = some ⟨kb s, ko s, none⟩ ∧ kb s < w.heap.size
  kz : ∀ s k, s < n → k < KL s → w.cell? ⟨kb s, ko s + k, none⟩ = some (.int .u8 (KZ s k)) ∧ 0 ≤ KZ s k ∧ KZ s k ≤ 255

/-- Between two steps. -/
structure Mid (w wr : World) (L : Nat → List Nat) : Prop where
  below : Below w.heap.size w wr
  mat : wr.heap[w.heap.size]? = some (.cells (matA L) 28 (0, 0))
  size : w.heap.size + 1 ≤ wr.heap.size
  idx : ∃ M fh, Idx wr (w.heap.size + 1) (w.heap.size + 1 + 3) (hof L) M fh ∧ HeldAt wr fh L

theorem mid_start {w w1 : World} {M0 : Nat → Bool} {fh0 : ByteArray → Option Value}
    (hx : Idx w1 (w.alloc (.cells #[.bool false, .bool false, .bool false, .bool false, .bool false, .bool false, .bool false, .bool false, .bool false, .bool false, .bool false, .bool false, .bool false, .bool false, .bool false, .bool false] 28)).heap.size
      ((w.alloc (.cells #[.bool false, .bool false, .bool false, .bool false, .bool false, .bool false, .bool false, .bool false, .bool false, .bool false, .bool false, .bool false, .bool false, .bool false, .bool false, .bool false] 28)).heap.size + 3) (hof fun _ => []) M0 fh0)
    (hh : HeldAt w1 fh0 (fun _ => []))
    (hb : Below (w.alloc (.cells #[.bool false, .bool false, .bool false, .bool false, .bool false, .bool false, .bool false, .bool false, .bool false, .bool false, .bool false, .bool false, .bool false, .bool false, .bool false, .bool false] 28)).heap.size
      (w.alloc (.cells #[.bool false, .bool false, .bool false, .bool false, .bool false, .bool false, .bool false, .bool false, .bool false, .bool false, .bool false, .bool false, .bool false, .bool false, .bool false, .bool false] 28)) w1) : Mid w w1 (fun _ => []) := by
  simp only [World.size_alloc] at hx
  refine ⟨((Below.refl _ w).alloc (Nat.le_refl _) _).trans (hb.mono (by simp)), ?_, by have := hb.size; simpa using this, M0, fh0, hx, hh⟩
  rw [hb.block _ (by simp), (heap_alloc w _).1]
  simp [matA]

theorem below_idx {wr w3 : World} {B X : Nat} {H : Nat → Nat → Bool} {M : Nat → Bool} {fh : ByteArray → Option Value} (h : Idx wr B X H M fh) (hX : B ≤ X) (hb : Below wr.heap.size wr w3) : Idx w3 B X H M fh :=
  h.kept hX fun k _ hk => hb.block k hk
theorem below_held {wr w3 : World} {fh : ByteArray → Option Value} {L : Nat → List Nat} (h : HeldAt wr fh L) (hb : Below wr.heap.size wr w3) : HeldAt w3 fh L :=
  h.kept fun k _ hk => hb.block k (Array.getElem?_eq_some_iff.1 hk).1

theorem st_cell {wr w2 : World} {a b : Value} (hg : (wr.alloc (.cells #[a, b] 26)).grownBy w2 none) : ∀ o, (w2.alloc o).cell? ⟨wr.heap.size, 1, none⟩ = some b := fun o => by
  have h1 : w2.heap[wr.heap.size]? = some (.cells #[a, b] 26 (0, 0)) := by rw [hg.block _ (by simp) (by simp), (heap_alloc wr _).1]
  exact cell_of (by rw [(heap_alloc w2 o).2 _ (Array.getElem?_eq_some_iff.1 h1).1]; exact h1) rfl

/-- Ahead of a step's keys. -/
theorem inner_start {wr w2 : World} {o : Obj} {K : Nat} (hg : (wr.alloc o).grownBy w2 none) (hown : w2.ownsRow (wr.heap.size + 1) 9 1 (.slice (some ⟨wr.heap.size + 1, 0, none⟩) 0 K) 0 []) (ro : Obj) :
    Below wr.heap.size wr (w2.alloc ro) ∧ (w2.alloc ro).ownsRow (wr.heap.size + 1) 9 1 (.slice (some ⟨wr.heap.size + 1, 0, none⟩) 0 K) 0 [] ∧ wr.heap.size + 1 ≠ w2.heap.size ∧ wr.heap.size + 1 ≤ w2.heap.size ∧ (w2.alloc ro).heap[w2.heap.size]? = some ro := by
  have hz : wr.heap.size + 1 ≤ w2.heap.size := by have := hg.size; simpa using this
  have hb : Below wr.heap.size wr w2 := ((Below.refl _ wr).alloc (Nat.le_refl _) _).grown hg (by simp) (fun k e => by cases e)
  refine ⟨hb.alloc (by omega) _, hown.alloc _, ?_, hz, (heap_alloc w2 _).1⟩
  have hl := hown.lt (wr.heap.size + 1) rfl
  have := hl.2
  omega

/-- One key more of a step. -/
theorem inner_step {wr w3 w4 : World} {g R t KLs : Nat} {l : List Nat} {j : Nat} (hj : j < 4) (hb : Below wr.heap.size wr w3) (hg : wr.heap.size ≤ g) (hgR : g ≠ R) (hR : wr.heap.size ≤ R)
    (hrow : w3.heap[R]? = some (.cells (rowA l) 27 (0, 0)))
    (hgrow : (w3.alloc (.cells #[.string (kS j)] 9)).grownBy w4 (some g)) (hown : w4.ownsRow (wr.heap.size + 1) 9 1 (.slice (some ⟨g, 0, none⟩) (t + 1) KLs) (t + 1) (l.map (fun j => Value.string (kS j)) ++ [.string (kS j)])) :
    w4.heap[R]? = some (.cells (rowA l) 27 (0, 0)) ∧
    (w4.setCell ⟨R, j, none⟩ (.bool true)).ownsRow (wr.heap.size + 1) 9 1 (.slice (some ⟨g, 0, none⟩) (t + 1) KLs) (t + 1) ((l ++ [j]).map (fun j => Value.string (kS j))) ∧
    (w4.setCell ⟨R, j, none⟩ (.bool true)).heap[R]? = some (.cells (rowA (l ++ [j])) 27 (0, 0)) ∧ Below wr.heap.size wr (w4.setCell ⟨R, j, none⟩ (.bool true)) := by
  have hRl := (Array.getElem?_eq_some_iff.1 hrow).1
  have h4 : w4.heap[R]? = some (.cells (rowA l) 27 (0, 0)) := by
    rw [hgrow.block R (by simp; omega) (by simpa using Ne.symm hgR), (heap_alloc w3 _).2 R hRl]; exact hrow
  have hs := hb.size
  refine ⟨h4, ?_, by rw [← rowA_put l hj]; exact set_cell_block _ h4, ?_⟩
  · have := hown.kept (w' := w4.setCell ⟨R, j, none⟩ (.bool true)) (row := some R) ⟨rfl, rfl, rfl, by simp [World.setCell], fun k _ hk => Below.heap_setCell _ _ _ k (fun e => hk (by rw [e]))⟩ (.inr (by simpa [Value.ownBlock] using hgR))
    simpa using this
  · exact ((hb.alloc hs _).grown hgrow (by simp; omega) (fun k e => by cases e; exact hg)).setCell (p := ⟨R, j, none⟩) hR _

/-- A whole step. -/
theorem mid_step {w wr w4 w5 : World} {L : Nat → List Nat} {i R : Nat} {l : List Nat} (hi : i < 4) (h : Mid w wr L) (hb : Below wr.heap.size wr w4) (hR : w4.heap[R]? = some (.cells (rowA l) 27 (0, 0)))
    {M : Nat → Bool} {fh : ByteArray → Option Value} (hx : Idx w5 (w.heap.size + 1) (w.heap.size + 1 + 3) (hof (setL L i l)) M fh) (hh : HeldAt w5 fh (setL L i l)) (hk : Keep (w.heap.size + 1) w4 w5) :
    w5.heap[w.heap.size]? = some (.cells (matA L) 28 (0, 0)) ∧ w5.heap[R]? = some (.cells (rowA l) 27 (0, 0)) ∧
    Mid w ((((w5.setCell ⟨w.heap.size, 4 * i, none⟩ (.bool (decide (0 ∈ l)))).setCell ⟨w.heap.size, 4 * i + 1, none⟩ (.bool (decide (1 ∈ l)))).setCell ⟨w.heap.size, 4 * i + 2, none⟩ (.bool (decide (2 ∈ l)))).setCell ⟨w.heap.size, 4 * i + 3, none⟩ (.bool (decide (3 ∈ l)))) (setL L i l) := by
  have hz := h.size
  have hz4 := hb.size
  have hz5 := hk.size
  have m4 : w4.heap[w.heap.size]? = some (.cells (matA L) 28 (0, 0)) := by rw [hb.block _ (by omega)]; exact h.mat
  have m5 := hk.cells m4
  have b5 : Below w.heap.size w w5 := (h.below.trans (hb.mono (by omega))).trans (hk.below (by omega) (by omega))
  refine ⟨m5, hk.cells hR, ?_⟩
  have key : ∀ (W : World) (o : Nat) (v : Value) (k : Nat), k ≠ w.heap.size → (W.setCell ⟨w.heap.size, o, none⟩ v).heap[k]? = W.heap[k]? := fun W o v k hk => Below.heap_setCell _ _ _ _ hk
  refine ⟨(((b5.setCell (Nat.le_refl _) _).setCell (Nat.le_refl _) _).setCell (Nat.le_refl _) _).setCell (Nat.le_refl _) _, ?_, by simp [World.setCell]; omega, M, fh, hx.kept (by omega) fun k hk _ => ?_, hh.kept fun k c hk => ?_⟩
  · rw [← matA_put L l hi]
    exact set_cell_block _ (set_cell_block _ (set_cell_block _ (set_cell_block _ m5)))
  · rw [key _ _ _ _ (by omega), key _ _ _ _ (by omega), key _ _ _ _ (by omega), key _ _ _ _ (by omega)]
  · have hne : k ≠ w.heap.size := by
      rintro rfl
      rw [m5] at hk; simp at hk
    rw [key _ _ _ _ hne, key _ _ _ _ hne, key _ _ _ _ hne, key _ _ _ _ hne]

theorem mat_cell {w wo wr : World} {L : Nat → List Nat} (h : Mid w wo L) (hb : Below wo.heap.size wo wr) {i j : Nat} (hi : i < 4) (hj : j < 4) : wr.cell? ⟨w.heap.size, i * 4 + j, none⟩ = some (.bool (decide (j ∈ L i))) := by
  have hz := h.size
  rw [Nat.mul_comm]
  exact cell_of (by rw [hb.block _ (by omega)]; exact h.mat) (matA_get L hi hj)

/-- '[]string{}'. -/
theorem want_start (wo : World) : (wo.alloc (.cells #[] 9)).ownsRow wo.heap.size 9 1 (.slice (some ⟨wo.heap.size, 0, none⟩) 0 0) 0 [] ∧ Below wo.heap.size wo (wo.alloc (.cells #[] 9)) :=
  ⟨⟨rfl, .inr ⟨wo.heap.size, 0, #[], rfl, Nat.le_refl _, (heap_alloc wo _).1, Nat.le_refl _, by unfold maxLen; omega, rfl, rfl⟩⟩, (Below.refl _ _).alloc (Nat.le_refl _) _⟩

theorem set_any' {w : World} {B X : Nat} {fh : ByteArray → Option Value} {M : Nat → Bool} {L : Nat → List Nat} {i : Nat} {l : List Nat} (h : Idx w B X (hof L) M fh) (hH : HeldAt w fh L) (hBw : B ≤ w.heap.size) (hi : i < 4)
    (hb0 : ∀ a, a < 4 → (L a).length ≤ 1048576) (base g n c : Nat) (hn : l.length = n) (ho : w.ownsRow base 9 1 (.slice (some ⟨g, 0, none⟩) n c) n (l.map fun j => Value.string (kS j))) (hl4 : ∀ j ∈ l, j < 4) (hb : n ≤ 1048576) :
    Calls Yba.prog 6 #[.pointer (some ⟨X, 0, none⟩), .string (iS i), .slice (some ⟨g, 0, none⟩) n c] w fun e w' => e = .returned (.tuple #[]) ∧ (∃ M' fh', Idx w' B X (hof (setL L i l)) M' fh' ∧ HeldAt w' fh' (setL L i l)) ∧ Keep B w w' := by
  subst hn
  obtain ⟨_, h2⟩ := ho
  rcases h2 with ⟨h2, _⟩ | ⟨g', cap, cur, h2, h3, h4, h5, h6, h7, h8⟩
  · cases h2
  · cases h2
    exact set_any h hH hBw hi hb0 g c cur h4 (by simpa using h8) hl4 hb
end Go.Proofs.Ybulkeals
