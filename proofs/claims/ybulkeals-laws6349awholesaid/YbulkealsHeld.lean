/- What the rows hold; how 'held' turns: no walk here. -/
import Derived.Test.YbulkealsWalkC
namespace Go.Proofs.Ybulkeals
open Go.RowKit Go.MapKept

theorem Idx.congr {w : World} {B X : Nat} {H H' : Nat → Nat → Bool} {M : Nat → Bool} {fh : ByteArray → Option Value} (h : Idx w B X H M fh) (e : ∀ a b, a < 4 → b < 4 → H a b = H' a b) : Idx w B X H' M fh := by
  obtain ⟨bh, bo, bm, fo, fm, h⟩ := h
  refine ⟨bh, bo, bm, fo, fm, h.cell, h.mh, h.mo, h.mm, h.ho, h.hm, h.om, h.lh, h.lo, h.lm, ?_, ?_, h.key.sep, h.key.far⟩
  · intro j hj hM
    obtain ⟨h1, h2⟩ := h.key.one j hj hM
    refine ⟨h1, ?_⟩
    rcases h2 with ⟨h2, h3⟩ | ⟨i, hi, h2, h3⟩
    · exact .inl ⟨h2, fun i hi => by rw [← e i j hi hj]; exact h3 i hi⟩
    · exact .inr ⟨i, hi, h2, fun i' hi' => by rw [← e i' j hi' hj]; exact h3 i' hi'⟩
  · intro j hj hM
    obtain ⟨h1, s, g, h2, h3, h4, h5, h6, h7, ⟨i0, hi0, h8⟩, h9, h10⟩ := h.key.many j hj hM
    exact ⟨h1, s, g, h2, h3, h4, h5, h6, h7, ⟨i0, hi0, by rw [← e i0 j hi0 hj]; exact h8⟩, fun i hi => by rw [← e i j hi hj]; exact h9 i hi, h10⟩

theorem idx_held {w w1 : World} {B X bh bo bm : Nat} {fo fm fh fh' : ByteArray → Option Value} {H : Nat → Nat → Bool} {M : Nat → Bool} (h : IdxAt w B X bh bo bm fo fm H M fh) (hm : MapIs w1 bh fh') (ht : Turn bh w w1) :
    IdxAt w1 B X bh bo bm fo fm H M fh' := by
  have hX := h.mh.ne_cells h.cell
  refine ⟨by rw [ht.block X hX]; exact h.cell, hm, h.mo.of_block (ht.block _ (Ne.symm h.ho)), h.mm.of_block (ht.block _ (Ne.symm h.hm)), h.ho, h.hm, h.om, h.lh, h.lo, h.lm, h.key.one, ?_, h.key.sep, h.key.far⟩
  intro j hj hM
  obtain ⟨h1, s, g, h2, h3, h4, h5, h6⟩ := h.key.many j hj hM
  exact ⟨h1, s, g, h2, h3.of_block (ht.block _ h5), h4, h5, h6⟩

/-- The slice v holds the keys of the numbers l. -/
def RowIs (w : World) (v : Value) (l : List Nat) : Prop :=
  ∃ g cap cur, v = .slice (some ⟨g, 0, none⟩) l.length cap ∧ w.heap[g]? = some (.cells cur 9 (0, 0)) ∧ cur.toList.take l.length = l.map (fun j => Value.string (kS j))

theorem RowIs.keep {B : Nat} {w w' : World} {v : Value} {l : List Nat} (h : RowIs w v l) (k : Keep B w w') : RowIs w' v l := by
  obtain ⟨g, cap, cur, h1, h2, h3⟩ := h
  exact ⟨g, cap, cur, h1, k.cells h2, h3⟩

theorem row_cell {w : World} {g : Nat} {cur : Array Value} {l : List Nat} (h2 : w.heap[g]? = some (.cells cur 9 (0, 0))) (h3 : cur.toList.take l.length = l.map (fun j => Value.string (kS j))) {t : Nat} (ht : t < l.length) :
    w.cell? ⟨g, t, none⟩ = some (.string (kS l[t])) := by
  have : cur.toList[t]? = some (.string (kS l[t])) := by
    have e := congrArg (fun x => x[t]?) h3
    simp only [List.getElem?_take, ht, if_true, List.getElem?_map] at e
    rw [e]; simp [ht]
  simp [World.cell?, h2]
  simpa using this

/-- What each row holds. -/
def HeldAt (w : World) (fh : ByteArray → Option Value) (L : Nat → List Nat) : Prop :=
  ∀ i, i < 4 → (∀ j ∈ L i, j < 4) ∧ ((fh (iS i) = none ∧ L i = []) ∨ ∃ v, fh (iS i) = some v ∧ RowIs w v (L i))

theorem HeldAt.keep {B : Nat} {w w' : World} {fh : ByteArray → Option Value} {L : Nat → List Nat} (h : HeldAt w fh L) (k : Keep B w w') : HeldAt w' fh L := fun i hi => by
  obtain ⟨h1, h2⟩ := h i hi
  refine ⟨h1, h2.imp id ?_⟩
  rintro ⟨v, hv, hr⟩
  exact ⟨v, hv, hr.keep k⟩

def setL (L : Nat → List Nat) (i : Nat) (l : List Nat) : Nat → List Nat := fun a => if a = i then l else L a
def hof (L : Nat → List Nat) : Nat → Nat → Bool := fun a b => decide (b ∈ L a)

theorem HeldAt.put {w : World} {fh : ByteArray → Option Value} {L : Nat → List Nat} {i : Nat} {v : Value} {l : List Nat} (h : HeldAt w fh L) (hi : i < 4) (hl : ∀ j ∈ l, j < 4) (hr : RowIs w v l) : HeldAt w (upd fh (iS i) (some v)) (setL L i l) := fun a ha => by
  by_cases e : a = i
  · subst e; simp only [setL, if_pos]; exact ⟨hl, .inr ⟨v, upd_same _ _ _, hr⟩⟩
  · simp only [setL, if_neg e, upd_other _ _ (iS_ne hi ha e)]; exact h a ha

theorem HeldAt.del {w : World} {fh : ByteArray → Option Value} {L : Nat → List Nat} {i : Nat} (h : HeldAt w fh L) (hi : i < 4) : HeldAt w (upd fh (iS i) none) (setL L i []) := fun a ha => by
  by_cases e : a = i
  · subst e; simp only [setL, if_pos]; exact ⟨by simp, .inl ⟨upd_same _ _ _, trivial⟩⟩
  · simp only [setL, if_neg e, upd_other _ _ (iS_ne hi ha e)]; exact h a ha

theorem mem_take_succ {l : List Nat} {t b : Nat} (ht : t < l.length) : b ∈ l.take (t + 1) ↔ b ∈ l.take t ∨ b = l[t] := by
  rw [List.take_succ_eq_append_getElem ht, List.mem_append, List.mem_singleton]

/-- Row i's keys struck, up to the t-th. -/
def less (L : Nat → List Nat) (i t : Nat) : Nat → Nat → Bool := fun a b => if a = i ∧ b ∈ (L i).take t then false else decide (b ∈ L a)
/-- Row i holds the first t of l. -/
def more (L : Nat → List Nat) (i : Nat) (l : List Nat) (t : Nat) : Nat → Nat → Bool := fun a b => if a = i then decide (b ∈ l.take t) else decide (b ∈ L a)

theorem less_zero (L : Nat → List Nat) (i : Nat) : less L i 0 = hof L := by funext a b; simp [less, hof]
theorem less_succ (L : Nat → List Nat) (i t : Nat) (ht : t < (L i).length) : clr (less L i t) i (L i)[t] = less L i (t + 1) := by
  funext a b
  simp only [clr, less, mem_take_succ ht]
  by_cases ha : a = i
  · subst ha
    by_cases hb : b = (L a)[t]
    · simp [hb]
    · simp [hb]
  · simp [ha]
theorem less_all (L : Nat → List Nat) (i : Nat) (l : List Nat) : less L i (L i).length = more L i l 0 := by
  funext a b
  simp only [less, more, List.take_length]
  by_cases ha : a = i
  · subst ha; by_cases hb : b ∈ L a <;> simp [hb]
  · simp [ha]
theorem more_succ (L : Nat → List Nat) (i : Nat) (l : List Nat) (t : Nat) (ht : t < l.length) : put (more L i l t) i l[t] = more L i l (t + 1) := by
  funext a b
  simp only [put, more, mem_take_succ ht]
  by_cases ha : a = i
  · subst ha
    by_cases hb : b = l[t]
    · simp [hb]
    · simp [hb]
  · simp [ha]
theorem more_all (L : Nat → List Nat) (i : Nat) (l : List Nat) : more L i l l.length = hof (setL L i l) := by
  funext a b
  simp only [more, hof, setL, List.take_length]
  by_cases ha : a = i <;> simp [ha]
end Go.Proofs.Ybulkeals
