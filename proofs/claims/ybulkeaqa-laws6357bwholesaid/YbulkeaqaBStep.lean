/- S6357B: Map.move's plain steps. -/
import Derived.Test.YbulkeaqaBFam
namespace Go.Proofs.Ybulkeaqa
open Go.RowKit Go.Shelf
set_option linter.unusedSimpArgs false

/-- The lists, the count of overflow buckets, the count of hashes. -/
structure St where
  L : Nat → List Ent
  ovc : Nat
  cl : Nat
def destOf (base sp k : Nat) : Nat := if sp = 0 then base else base ||| (k &&& sp)
def stepE (base sp : Nat) (s : St) (e : Ent) : St :=
  { L := setL s.L (destOf base sp e.k) (s.L (destOf base sp e.k) ++ [e]), ovc := s.ovc + (if 0 < (s.L (destOf base sp e.k)).length ∧ (s.L (destOf base sp e.k)).length % 8 = 0 then 1 else 0), cl := s.cl + (if sp = 0 then 0 else 1) }
def stQ (base sp : Nat) (s : St) (es : List Ent) (q : Nat) : St := (es.take q).foldl (stepE base sp) s
theorem stQ_zero (base sp : Nat) (s : St) (es : List Ent) : stQ base sp s es 0 = s := by simp [stQ]
theorem stQ_succ (base sp : Nat) (s : St) (es : List Ent) (q : Nat) (h : q < es.length) : stQ base sp s es (q + 1) = stepE base sp (stQ base sp s es q) es[q] := by
  unfold stQ
  rw [List.take_succ_eq_append_getElem h, List.foldl_append]
  rfl

/-- The map's cells. -/
def mapA (Bc Bn Bo newN oldN next len ovc mig : Nat) : Array Value :=
  #[.func (.func 6) #[] #[.pointer (some ⟨Bc, 0, none⟩)], .func (.func 7) #[] #[], .int .i64 newN, .slice (some ⟨Bn, 0, none⟩) newN newN, .slice none 0 0, .int .i64 0, .int .i64 oldN, .slice (some ⟨Bo, 0, none⟩) oldN oldN, .slice none 0 0, .int .i64 0, .int .i64 next, .int .i64 1, .int .i64 len, .int .i64 0, .int .i64 ovc, .int .u64 mig, .int .i64 3, .int .u32 0]
def mapF (Bc Bn Bo newN oldN next len ovc mig : Nat) (k : Nat) : Value := (mapA Bc Bn Bo newN oldN next len ovc mig).getD k undef
theorem tabB {w : World} {Bm Bc Bn Bo newN oldN next len ovc mig : Nat} (h : Row w Bm 18 53 (mapF Bc Bn Bo newN oldN next len ovc mig)) : Tab w Bm 2 newN Bn := ⟨h.cell (by omega), h.cell (by omega), h.cell (by omega)⟩
theorem tabO {w : World} {Bm Bc Bn Bo newN oldN next len ovc mig : Nat} (h : Row w Bm 18 53 (mapF Bc Bn Bo newN oldN next len ovc mig)) : Tab w Bm 6 oldN Bo := ⟨h.cell (by omega), h.cell (by omega), h.cell (by omega)⟩

/-- The map's blocks beside the new table's. -/
def Xs (Bm Bc Bb : Nat) (b : Nat) : Prop := b = Bm ∨ b = Bc ∨ b = Bb
/-- Between two rounds of move's loop, begun in w4. -/
def Inv (w4 : World) (Bm Bc Bb Bn Bo newN oldN next len mig : Nat) (ovn : Nat → Nat → Nat) (s0 : St) (base sp : Nat) (es : List Ent) (q : Nat) (W : World) : Prop :=
  ∃ F ov, Grow w4 W Bn newN ovn s0.L (Xs Bm Bc Bb) F ov (stQ base sp s0 es q).L ∧ Row W Bm 18 53 (mapF Bc Bn Bo newN oldN next len (stQ base sp s0 es q).ovc mig) ∧ W.cell? ⟨Bc, 0, none⟩ = some (.int .i64 ((stQ base sp s0 es q).cl : Nat)) ∧ W.frozen? ⟨Bc, 0, none⟩ = false

theorem Grow.own {w0 w w' : World} {Bn M : Nat} {ov0 ov : Nat → Nat → Nat} {L0 L : Nat → List Ent} {X : Nat → Prop} {F : Nat → Value} {row : Option Nat} (h : Grow w0 w Bn M ov0 L0 X F ov L) (hg : w.grownBy w' row) (hr : ∀ r, row = some r → w0.heap.size ≤ r ∧ ∃ o : Obj, w.heap[r]? = some o ∧ o.isCells = false) : Grow w0 w' Bn M ov0 L0 X F ov L := by
  refine ⟨h.fam.on fun b hb => hg.block b (h.fam.lt hb) (fun e => ?_), h.from_, ⟨hg.os.trans h.stay.os, hg.tape.trans h.stay.tape, hg.output.trans h.stay.output, Nat.le_trans h.stay.size hg.size, fun b hb hs => (hg.block b (by have := h.stay.size; omega) (fun e => ?_)).trans (h.stay.block b hb hs)⟩⟩
  · obtain ⟨_, o, ho, hc⟩ := hr b e.symm
    rcases hb with rfl | ⟨j, t, hj, hl, rfl⟩
    · have hrow : w.heap[b]? = some (.cells (rowA (M * 25) F) 39 (0, 0)) := h.fam.row
      rw [hrow] at ho
      cases ho
      cases hc
    · have hrow : w.heap[ov j t]? = some (.cells (rowA 25 (bcell (L j) (nxt (ov j) (L j).length t) t)) 39 (0, 0)) := (h.fam.ch j hj).ovs t hl.1 hl.2
      rw [hrow] at ho
      cases ho
      cases hc
  · have := (hr b e.symm).1; omega
theorem row_own {w w' : World} {b N B : Nat} {t : TypeId} {F : Nat → Value} {row : Option Nat} (h : Row w b N t F) (hg : w.grownBy w' row) (hr : ∀ r, row = some r → B ≤ r ∧ ∃ o : Obj, w.heap[r]? = some o ∧ o.isCells = false) : Row w' b N t F := by
  refine (hg.block b h.lt (fun e => ?_)).trans h
  obtain ⟨_, o, ho, hc⟩ := hr b e.symm
  have hrow : w.heap[b]? = some (.cells (rowA N F) t (0, 0)) := h
  rw [hrow] at ho
  cases ho
  cases hc
theorem Inv.own (w4 : World) (Bm Bc Bb Bn Bo newN oldN next len mig : Nat) (ovn : Nat → Nat → Nat) (s0 : St) (base sp : Nat) (es : List Ent) (hBc : Bc < w4.heap.size) : OwnFrom w4.heap.size (Inv w4 Bm Bc Bb Bn Bo newN oldN next len mig ovn s0 base sp es) := by
  rintro q W W' row ⟨F, ov, h1, h2, h3, h4⟩ hg hr
  have hb : W'.heap[Bc]? = W.heap[Bc]? := hg.block Bc (by have := h1.stay.size; omega) (fun e => by have := (hr Bc e.symm).1; omega)
  exact ⟨F, ov, h1.own hg hr, row_own h2 hg hr, (World.cell?_of_block hb).trans h3, (World.frozen?_of_block hb).trans h4⟩
end Go.Proofs.Ybulkeaqa
