/- S6357B: a round of move's loop, as the invariant sees it. -/
import Derived.Test.YbulkeaqaBRound
namespace Go.Proofs.Ybulkeaqa
open Go.RowKit Go.Shelf
set_option linter.unusedSimpArgs false

/-- insert writes cells alone. -/
theorem Put.keeps {w w' : World} {Bh N oh : Nat} {F F' : Nat → Value} {ov ov' : Nat → Nat} {es : List Ent} {e : Ent} (p : Put w w' Bh N oh F ov es e F' ov') (hR : Row w Bh N 39 F) (hC : Chain w Bh oh F ov es) : KeepsOthers w w' := by
  refine ⟨p.stay.size, fun k o hk ho => (p.stay.block k (Array.getElem?_eq_some_iff.1 hk).1 ?_).trans hk⟩
  rintro (e1 | ⟨t, h1, h2, e1⟩)
  · subst e1
    have hr : w.heap[k]? = some (.cells (rowA N F) 39 (0, 0)) := hR
    rw [hr] at hk; cases hk; cases ho
  · subst e1
    have hr : w.heap[ov t]? = some (.cells (rowA 25 (bcell es (nxt ov es.length t) t)) 39 (0, 0)) := hC.ovs t h1 h2
    rw [hr] at hk; cases hk; cases ho

/-- A block that lay in w4 and is not the family's is not touched by insert. -/
theorem Grow.far {w4 W W' : World} {Bn M : Nat} {ov0 ov : Nat → Nat → Nat} {L0 L : Nat → List Ent} {X : Nat → Prop} {F F' : Nat → Value} {d : Nat} {e : Ent} {ov' : Nat → Nat} (h : Grow w4 W Bn M ov0 L0 X F ov L) (hd : d < M) (p : Put W W' Bn (M * 25) (d * 25) F (ov d) (L d) e F' ov') {b : Nat} (hb : b < w4.heap.size) (hm : ¬ Mine Bn M ov0 L0 b) : W'.heap[b]? = W.heap[b]? := by
  refine p.stay.block b (by have := h.stay.size; omega) ?_
  rintro (e1 | ⟨t, h1, h2, e1⟩)
  · exact hm (.inl e1)
  · exact hm (h.mine hb (.inr ⟨d, t, hd, ⟨h1, h2⟩, e1⟩))

theorem ent_at {es : List Ent} {q : Nat} (hq : q < es.length) : es[q] = ⟨tg es q, ky es q, vl es q⟩ := by
  unfold tg ky vl
  rw [List.getElem?_eq_getElem hq]

/-- The map's count of overflow buckets, set. -/
theorem mapF_ov (Bc Bn Bo newN oldN next len ovc mig v : Nat) (k : Nat) (hk : k < 18) : upd (mapF Bc Bn Bo newN oldN next len ovc mig) 14 (.int .i64 v) k = mapF Bc Bn Bo newN oldN next len v mig k := by
  rcases (show k = 0 ∨ k = 1 ∨ k = 2 ∨ k = 3 ∨ k = 4 ∨ k = 5 ∨ k = 6 ∨ k = 7 ∨ k = 8 ∨ k = 9 ∨ k = 10 ∨ k = 11 ∨ k = 12 ∨ k = 13 ∨ k = 14 ∨ k = 15 ∨ k = 16 ∨ k = 17 by omega) with rfl | rfl | rfl | rfl | rfl | rfl | rfl | rfl | rfl | rfl | rfl | rfl | rfl | rfl | rfl | rfl | rfl | rfl <;> rfl

/-- One more entry moved: the world behind insert and, where a bucket was chained, behind the count. -/
theorem Inv.step {w4 W W1 W2 : World} {Bm Bc Bb Bn Bo newN oldN next len mig : Nat} {ovn : Nat → Nat → Nat} {s0 : St} {base sp : Nat} {es : List Ent} {q : Nat} {F F' : Nat → Value} {ov : Nat → Nat → Nat} {ov' : Nat → Nat} (hq : q < es.length) (he : ∀ e ∈ es, e.Ok) (hd : destOf base sp es[q].k < newN) (hBm : Bm < w4.heap.size) (hBc : Bc < w4.heap.size) (hmM : ¬ Mine Bn newN ovn s0.L Bm) (hmC : ¬ Mine Bn newN ovn s0.L Bc) (hne : Bm ≠ Bc)
    (hG : Grow w4 W Bn newN ovn s0.L (Xs Bm Bc Bb) F ov (stQ base sp s0 es q).L) (hM : Row W Bm 18 53 (mapF Bc Bn Bo newN oldN next len (stQ base sp s0 es q).ovc mig)) (hc : W.cell? ⟨Bc, 0, none⟩ = some (.int .i64 ((stQ base sp s0 es q).cl + (if sp = 0 then 0 else 1) : Nat))) (hcf : W.frozen? ⟨Bc, 0, none⟩ = false)
    (p : Put W W1 Bn (newN * 25) (destOf base sp es[q].k * 25) F (ov (destOf base sp es[q].k)) ((stQ base sp s0 es q).L (destOf base sp es[q].k)) es[q] F' ov')
    (h2 : (¬ (0 < ((stQ base sp s0 es q).L (destOf base sp es[q].k)).length ∧ ((stQ base sp s0 es q).L (destOf base sp es[q].k)).length % 8 = 0) ∧ W2 = W1) ∨ ((0 < ((stQ base sp s0 es q).L (destOf base sp es[q].k)).length ∧ ((stQ base sp s0 es q).L (destOf base sp es[q].k)).length % 8 = 0) ∧ W2 = W1.setCell ⟨Bm, 14, none⟩ (.int .i64 (((stQ base sp s0 es q).ovc : Int) + 1)))) :
    Inv w4 Bm Bc Bb Bn Bo newN oldN next len mig ovn s0 base sp es (q + 1) W2 := by
  have hM1 : Row W1 Bm 18 53 (mapF Bc Bn Bo newN oldN next len (stQ base sp s0 es q).ovc mig) := (hG.far hd p hBm hmM).trans hM
  have hb := hG.far hd p hBc hmC
  have hc1 := (World.cell?_of_block (a := ⟨Bc, 0, none⟩) hb).trans hc
  have hf1 := (World.frozen?_of_block (a := ⟨Bc, 0, none⟩) hb).trans hcf
  have hG1 := hG.put hd (he _ (List.getElem_mem hq)) p
  unfold Inv
  rw [stQ_succ base sp s0 es q hq]
  rcases h2 with ⟨hn, rfl⟩ | ⟨hy, rfl⟩
  · refine ⟨F', _, hG1, ?_, hc1, hf1⟩
    simp only [stepE, if_neg hn, Nat.add_zero]
    exact hM1
  · refine ⟨F', _, hG1.set _ (.inl rfl) hBm hmM, ?_, ?_, ?_⟩
    · simp only [stepE, if_pos hy]
      refine (hM1.set _).congr (fun k hk => ?_)
      have := mapF_ov Bc Bn Bo newN oldN next len (stQ base sp s0 es q).ovc mig ((stQ base sp s0 es q).ovc + 1) k hk
      rw [← this]
      rfl
    · have hb2 : (W1.setCell ⟨Bm, 14, none⟩ (.int .i64 (((stQ base sp s0 es q).ovc : Int) + 1))).heap[Bc]? = W1.heap[Bc]? := Below.heap_setCell _ _ _ _ (Ne.symm hne)
      exact (World.cell?_of_block (a := ⟨Bc, 0, none⟩) hb2).trans hc1
    · have hb2 : (W1.setCell ⟨Bm, 14, none⟩ (.int .i64 (((stQ base sp s0 es q).ovc : Int) + 1))).heap[Bc]? = W1.heap[Bc]? := Below.heap_setCell _ _ _ _ (Ne.symm hne)
      exact (World.frozen?_of_block (a := ⟨Bc, 0, none⟩) hb2).trans hf1

theorem stQ_bound (base sp : Nat) (s0 : St) (es : List Ent) : ∀ q, q ≤ es.length → (stQ base sp s0 es q).ovc ≤ s0.ovc + q ∧ (stQ base sp s0 es q).cl ≤ s0.cl + q ∧ ∀ j, ((stQ base sp s0 es q).L j).length ≤ (s0.L j).length + q
  | 0, _ => by rw [stQ_zero]; exact ⟨Nat.le_refl _, Nat.le_refl _, fun _ => Nat.le_refl _⟩
  | q + 1, h => by
    obtain ⟨h1, h2, h3⟩ := stQ_bound base sp s0 es q (by omega)
    rw [stQ_succ base sp s0 es q (by omega)]
    refine ⟨?_, ?_, fun j => ?_⟩
    · simp only [stepE]; split <;> omega
    · simp only [stepE]; split <;> omega
    · simp only [stepE, setL]
      have := h3 j
      split
      · rename_i e; rw [← e, List.length_append]; simp; omega
      · omega

/-- The round's end, as the range law asks it. -/
theorem round_end {w4 W W1 W2 : World} {Bm Bc Bb Bn Bo newN oldN next len mig : Nat} {ovn : Nat → Nat → Nat} {s0 : St} {base sp : Nat} {es : List Ent} {q : Nat} {F F' : Nat → Value} {ov : Nat → Nat → Nat} {ov' : Nat → Nat} (hq : q < es.length) (he : ∀ e ∈ es, e.Ok) (hd : destOf base sp es[q].k < newN) (hBm : Bm < w4.heap.size) (hBc : Bc < w4.heap.size) (hBb : Bb < w4.heap.size) (hmM : ¬ Mine Bn newN ovn s0.L Bm) (hmC : ¬ Mine Bn newN ovn s0.L Bc) (hmB : ¬ Mine Bn newN ovn s0.L Bb) (hne : Bm ≠ Bc) (hnb : Bm ≠ Bb)
    (hG : Grow w4 W Bn newN ovn s0.L (Xs Bm Bc Bb) F ov (stQ base sp s0 es q).L) (hM : Row W Bm 18 53 (mapF Bc Bn Bo newN oldN next len (stQ base sp s0 es q).ovc mig)) (hc : W.cell? ⟨Bc, 0, none⟩ = some (.int .i64 ((stQ base sp s0 es q).cl + (if sp = 0 then 0 else 1) : Nat))) (hcf : W.frozen? ⟨Bc, 0, none⟩ = false)
    (p : Put W W1 Bn (newN * 25) (destOf base sp es[q].k * 25) F (ov (destOf base sp es[q].k)) ((stQ base sp s0 es q).L (destOf base sp es[q].k)) es[q] F' ov')
    (h2 : (¬ (0 < ((stQ base sp s0 es q).L (destOf base sp es[q].k)).length ∧ ((stQ base sp s0 es q).L (destOf base sp es[q].k)).length % 8 = 0) ∧ W2 = W1) ∨ ((0 < ((stQ base sp s0 es q).L (destOf base sp es[q].k)).length ∧ ((stQ base sp s0 es q).L (destOf base sp es[q].k)).length % 8 = 0) ∧ W2 = W1.setCell ⟨Bm, 14, none⟩ (.int .i64 (((stQ base sp s0 es q).ovc : Int) + 1)))) :
    KeepsFrom w4.heap.size W W2 ∧ Place Bb W W2 ∧ Inv w4 Bm Bc Bb Bn Bo newN oldN next len mig ovn s0 base sp es (q + 1) W2 := by
  have hk := p.keeps hG.fam.row (hG.fam.ch _ hd)
  have hb := hG.far hd p hBb hmB
  refine ⟨?_, ?_, Inv.step hq he hd hBm hBc hmM hmC hne hG hM hc hcf p h2⟩
  · rcases h2 with ⟨_, rfl⟩ | ⟨_, rfl⟩
    · exact hk.from _
    · exact (hk.trans (KeepsOthers.setCell _ _ _)).from _
  · have hb2 : W2.heap[Bb]? = W.heap[Bb]? := by
      rcases h2 with ⟨_, rfl⟩ | ⟨_, rfl⟩
      · exact hb
      · exact (Below.heap_setCell _ _ _ _ (Ne.symm hnb)).trans hb
    exact ⟨World.cell?_of_block hb2, World.frozen?_of_block hb2⟩
end Go.Proofs.Ybulkeaqa
