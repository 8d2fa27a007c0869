/- S6357B: a range over an iterator that keeps its place in a cell of its own (block Bb). -/
import Derived.Test.YbulkeaqaBSnoc
import Derived.RangeFuncNested
import Derived.RangeFuncBound
import Derived.RangeFuncCalls
import Derived.RangeFuncLeaves
import Derived.Shelf.Abstract
import Derived.Shelf.RegionOpen
import Derived.OwnWalkIn
import Derived.TacticsInMore
import Derived.LoopNIn
import Derived.LoopIn
namespace Go.Proofs.Ybulkeaqa
open Go.RowKit Go.Shelf
set_option linter.unusedSimpArgs false

/-- What the iterator's place is, untouched by a round. -/
def Place (Bb : Nat) (W W' : World) : Prop := W'.cell? ⟨Bb, 0, none⟩ = W.cell? ⟨Bb, 0, none⟩ ∧ W'.frozen? ⟨Bb, 0, none⟩ = W.frozen? ⟨Bb, 0, none⟩

theorem range_box {n : Nat} {P : Program} {g : Operand} {ps : Array Tmp} {assign body : Code} {Q : Exit → Act → World → Prop} {a : Act} {w : World} {gf : Nat} {lb : Array Value} (h1 : 1 ≤ n) (hg : a.eval g = .func (.func gf) #[] lb) (eg : ∀ args w, (callFunc gf args).run P w = .ok (.enter gf args) w)
    (Bb N : Nat) (hBb : Bb < w.heap.size) (encs : Nat → Array Value) (hps : ∀ x, (encs x).size = ps.size) (I : Nat → World → Prop) (hIo : OwnFrom w.heap.size I) (hIb : ∀ q W v, I q W → I q (W.setCell ⟨Bb, 0, none⟩ v)) (hId : ∀ q W r, I q W → I q (W.drewN r)) (h0 : I 0 w)
    (f : Nat → Array Value → Array Value)
    (hassign : ∀ (l q : Nat) (W : World) (K : Act → World → Prop), K { tmps := f q a.tmps, defers := [] } W → assign.wpIn (Fence.wide.inRound l) (n - 1 - 1) P (Exit.then K (fun _ _ _ => False)) { tmps := (ps.zip (encs q)).foldl (fun t (p, v) => t.setIfInBounds p v) a.tmps, defers := [] } W)
    (hbody : ∀ (l q : Nat) (W : World), w.heap.size ≤ l → I q W → q < N → body.wpIn (Fence.wide.inRound l) (n - 1 - 1) P (fun e _ W' => e = .normal ∧ KeepsFrom w.heap.size W W' ∧ Place Bb W W' ∧ I (q + 1) W') { tmps := f q a.tmps, defers := [] } W)
    (hiter : ∀ (l : Nat) (J : Nat → World → Prop) (W : World), (∀ q W, J q W → I q W) → (∀ q W v, J q W → J q (W.setCell ⟨Bb, 0, none⟩ v)) → (∀ q W r, J q W → J q (W.drewN r)) → Place Bb w W →
      (∀ q W1, q < N → J q W1 → YieldAt Fence.wide (n - 1 - 1) P l (encs q) W1 fun e W' => e = .returned (.bool true) ∧ J (q + 1) W' ∧ Place Bb W1 W') → J 0 W →
      CallsIn Fence.wide (n - 1) P gf (#[.func (.yield l) #[] #[]] ++ lb) W fun e W' => (∃ v, e = .returned v) ∧ J N W')
    (hdone : ∀ (D : Nat) (W : World), w.heap.size ≤ D → I N W → W.heap[D]? = some (.deferred (some [])) → Q .normal { a with defers := { target := .collected D, args := #[] } :: a.defers } W) :
    (Code.rangeFunc g ps assign body).wpIn Fence.wide n P Q a w := by
  refine wpIn_rangeFunc fun fn hfn => ?_
  -- the loop's record, and the two blocks of its book-keeping
  let rec' : LoopState → Option Code → Loop := fun st pe => { state := st, pending := pe, fn, tmps := a.tmps, params := ps, assign, body, defers := w.heap.size }
  obtain ⟨R, hR⟩ : ∃ R : LoopState → Option Code → Loop, R = rec' := ⟨_, rfl⟩
  obtain ⟨V, hV⟩ : ∃ V, (w.alloc (.deferred (some []))).alloc (.loop (R .ready none)) = V := ⟨_, rfl⟩
  have vl : V.heap[w.heap.size + 1]? = some (.loop (R .ready none)) := by
    rw [← hV]
    have := World.alloc_heap_new (w.alloc (.deferred (some []))) (.loop (R .ready none))
    rwa [World.size_alloc] at this
  have vd : V.heap[w.heap.size]? = some (.deferred (some [])) := by
    rw [← hV]; exact (Below.heap_alloc _ _ _ (by simp)).trans (World.alloc_heap_new w _)
  have vi : I 0 V := by rw [← hV]; exact hIo.alloc _ (hIo.alloc _ h0)
  have vp : Place Bb w V := by
    rw [← hV]
    have hb : ((w.alloc (.deferred (some []))).alloc (.loop (R .ready none))).heap[Bb]? = w.heap[Bb]? := (Below.heap_alloc _ _ _ (by simp; omega)).trans (Below.heap_alloc _ _ _ hBb)
    exact ⟨World.cell?_of_block hb, World.frozen?_of_block hb⟩
  let J : Nat → World → Prop := fun q W => I q W ∧ W.heap[w.heap.size + 1]? = some (.loop (R .ready none)) ∧ W.heap[w.heap.size]? = some (.deferred (some []))
  have jb : ∀ q W v, J q W → J q (W.setCell ⟨Bb, 0, none⟩ v) := fun q W v h =>
    ⟨hIb q W v h.1, (Below.heap_setCell _ _ _ _ (show w.heap.size + 1 ≠ Bb by omega)).trans h.2.1, (Below.heap_setCell _ _ _ _ (show w.heap.size ≠ Bb by omega)).trans h.2.2⟩
  refine ⟨w.heap.size + 1, [{ target := .collected w.heap.size, args := #[] }], V, { target := .fn (.func gf) lb, args := #[.func (.yield (w.heap.size + 1)) #[] #[]] }, V, gf, #[.func (.yield (w.heap.size + 1)) #[] #[]] ++ lb, V, ?_, ?_, ?_, ?_, fun _ => h1, ?_⟩
  · rw [← hV, hR]; exact run_enterLoop_outer _ _ _ _ _
  · simp only [resolve, hg]
    simp [go_sem]
  · intro f' _; trivial
  · simp [invoke, go_sem, eg]
  · refine (hiter (w.heap.size + 1) J V (fun q W h => h.1) jb (fun q W r h => ⟨hId q W r h.1, h.2.1, h.2.2⟩) vp ?_ ⟨vi, vl, vd⟩).mono ?_
    · -- one round
      rintro q W hq ⟨hi, hl, hd⟩
      have hlt : w.heap.size + 1 < W.heap.size := (Array.getElem?_eq_some_iff.1 hl).1
      have hy := run_yield (P := P) (args := encs q) hl (by rw [hR]; exact hps q)
      rw [hR] at hy
      refine ⟨fn, _, assign, body, hy, roundIn_of_wpIn hfn (hassign _ q W _ ?_)⟩
      refine ⟨_, run_beginRound hl (by rw [hR]), ?_⟩
      obtain ⟨U, hU⟩ : ∃ U, W.putObj (w.heap.size + 1) (.loop { R .ready none with state := .busy }) = U := ⟨_, rfl⟩
      have ul : U.heap[w.heap.size + 1]? = some (.loop { R .ready none with state := .busy }) := by rw [← hU]; exact World.putObj_heap_same hlt
      have ud : U.heap[w.heap.size]? = some (.deferred (some [])) := by rw [← hU]; exact (World.putObj_heap_other (by omega)).trans hd
      have ub : U.heap[Bb]? = W.heap[Bb]? := by rw [← hU]; exact World.putObj_heap_other (by omega)
      have ui : I q U := by rw [← hU]; exact hIo.putObj _ hi (by omega) hl rfl
      rw [hU]
      refine wpIn_mono (hbody _ q U (by omega) ui hq) ?_
      rintro e a3 W3 ⟨rfl, hk, hp, hi3⟩
      have l3 := hk.same _ _ (by omega) ul rfl
      have d3 := hk.same _ _ (Nat.le_refl _) ud rfl
      have he := run_endRound (P := P) none l3
      obtain ⟨U3, hU3⟩ : ∃ U3, W3.putObj (w.heap.size + 1) (.loop (R .ready none)) = U3 := ⟨_, rfl⟩
      have b3 : U3.heap[Bb]? = W3.heap[Bb]? := by rw [← hU3]; exact World.putObj_heap_other (by omega)
      have he' : (Instr.endRound (w.heap.size + 1) none).run P W3 = .ok (.bool true) U3 := by
        rw [← hU3]
        rw [hR] at he ⊢
        exact he
      refine ⟨_, U3, he', rfl, ⟨?_, ?_, ?_⟩, ?_, ?_⟩
      · rw [← hU3]; exact hIo.putObj _ hi3 (by omega) l3 rfl
      · rw [← hU3]; exact World.putObj_heap_same (Array.getElem?_eq_some_iff.1 l3).1
      · rw [← hU3]; exact (World.putObj_heap_other (by omega)).trans d3
      · exact (World.cell?_of_block b3).trans (hp.1.trans (World.cell?_of_block ub))
      · exact (World.frozen?_of_block b3).trans (hp.2.trans (World.frozen?_of_block ub))
    · rintro e W2 ⟨⟨v, rfl⟩, hi, hl, hd⟩
      refine ⟨none, _, by have := run_endLoop (P := P) hl (by rw [hR]; simp [rec']); rw [hR] at this; exact this, ?_⟩
      exact hdone _ _ (Nat.le_refl _) (hIo.putObj _ hi (by omega) hl rfl) ((World.putObj_heap_other (by omega)).trans hd)
end Go.Proofs.Ybulkeaqa
