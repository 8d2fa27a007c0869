/- S6357B: rows of cells as functions, and what stays. -/
import Derived.Test.YbulkeaqaRows
import Derived.WalkKit
import Derived.MapKept
import Derived.Deep.OwnRows
import Derived.Deep.Draws
import Derived.RegionTactic
import Derived.BigRegion
import Derived.Deep.QuietTactic
import Derived.BigQuiet
import Derived.Deep.DeepCutAuto
import Derived.Deep.RegionWith
import Derived.Maps.AppendAt
import Derived.Laws.StructEq
import Derived.Laws.BitsLemmas
import Derived.Laws.Bits64b
import Derived.Laws.OwnMore
import Derived.Lib.LazyBuf
import Derived.RangeFuncBox
import Derived.Laws.IdiomCopy
namespace Go.Proofs.Ybulkeaqa
open Go.RowKit
set_option linter.unusedSimpArgs false

/-- A block of N cells, cell k holding F k. -/
def rowA (N : Nat) (F : Nat → Value) : Array Value := (Array.range N).map F
def upd (F : Nat → Value) (k : Nat) (v : Value) : Nat → Value := fun j => if j = k then v else F j

theorem rowA_size (N : Nat) (F : Nat → Value) : (rowA N F).size = N := by simp [rowA]
theorem rowA_get {N k : Nat} (F : Nat → Value) (h : k < N) : (rowA N F)[k]? = some (F k) := by simp [rowA, h]
theorem rowA_set (N : Nat) (F : Nat → Value) (k : Nat) (v : Value) : (rowA N F).setIfInBounds k v = rowA N (upd F k v) := by
  apply Array.ext_getElem?
  intro j
  rw [Array.getElem?_setIfInBounds]
  by_cases hj : j < N
  · rw [rowA_get (upd F k v) hj]
    by_cases e : k = j
    · subst e; simp [rowA_size, hj, upd]
    · rw [if_neg e, rowA_get _ hj, upd, if_neg (Ne.symm e)]
  · rw [Array.getElem?_eq_none (by rw [rowA_size]; omega)]
    by_cases e : k = j
    · subst e; simp [rowA_size, hj]
    · rw [if_neg e, Array.getElem?_eq_none (by rw [rowA_size]; omega)]
theorem rowA_of (c : Array Value) (F : Nat → Value) (h : ∀ k, k < c.size → c[k]? = some (F k)) : c = rowA c.size F := by
  apply Array.ext_getElem?
  intro k
  by_cases hk : k < c.size
  · rw [h k hk, rowA_get _ hk]
  · rw [Array.getElem?_eq_none (by omega), Array.getElem?_eq_none (by rw [rowA_size]; omega)]
theorem rowA_congr {N : Nat} {F G : Nat → Value} (h : ∀ k, k < N → F k = G k) : rowA N F = rowA N G := by
  apply Array.ext_getElem?
  intro k
  by_cases hk : k < N
  · rw [rowA_get _ hk, rowA_get _ hk, h k hk]
  · rw [Array.getElem?_eq_none (by rw [rowA_size]; omega), Array.getElem?_eq_none (by rw [rowA_size]; omega)]
theorem upd_same (F : Nat → Value) (k : Nat) (v : Value) : upd F k v k = v := by simp [upd]
theorem upd_ne (F : Nat → Value) {k j : Nat} (v : Value) (h : j ≠ k) : upd F k v j = F j := by simp [upd, h]

/-- Block b of w is the row F, N cells wide, of type t. -/
def Row (w : World) (b N : Nat) (t : TypeId) (F : Nat → Value) : Prop := w.heap[b]? = some (.cells (rowA N F) t (0, 0))

theorem Row.lt {w : World} {b N : Nat} {t : TypeId} {F : Nat → Value} (h : Row w b N t F) : b < w.heap.size := (Array.getElem?_eq_some_iff.1 h).1
theorem Row.cell {w : World} {b N k : Nat} {t : TypeId} {F : Nat → Value} (h : Row w b N t F) (hk : k < N) : w.cell? ⟨b, k, none⟩ = some (F k) := by
  have h' : w.heap[b]? = some (.cells (rowA N F) t (0, 0)) := h
  simp [World.cell?, h', rowA_get F hk]
theorem Row.frozen {w : World} {b N k : Nat} {t : TypeId} {F : Nat → Value} (h : Row w b N t F) : w.frozen? ⟨b, k, none⟩ = false := by
  have h' : w.heap[b]? = some (.cells (rowA N F) t (0, 0)) := h
  simp [World.frozen?, h']
theorem Row.set {w : World} {b N k : Nat} {t : TypeId} {F : Nat → Value} (h : Row w b N t F) (v : Value) : Row (w.setCell ⟨b, k, none⟩ v) b N t (upd F k v) := by
  have h' : w.heap[b]? = some (.cells (rowA N F) t (0, 0)) := h
  unfold Row
  simp only [World.setCell, Array.getElem?_modify, if_pos, h']
  rw [← rowA_set]
  rfl
theorem Row.other {w : World} {b b' N k : Nat} {t : TypeId} {F : Nat → Value} (h : Row w b N t F) (v : Value) (hne : b ≠ b') : Row (w.setCell ⟨b', k, none⟩ v) b N t F :=
  (Below.heap_setCell _ _ _ _ hne).trans h
theorem Row.alloc {w : World} {b N : Nat} {t : TypeId} {F : Nat → Value} (h : Row w b N t F) (o : Obj) : Row (w.alloc o) b N t F := ((MapKept.heap_alloc w o).2 b h.lt).trans h
theorem Row.new (w : World) (c : Array Value) (t : TypeId) (F : Nat → Value) (hc : ∀ k, k < c.size → c[k]? = some (F k)) : Row (w.alloc (.cells c t)) w.heap.size c.size t F := by
  unfold Row
  rw [(MapKept.heap_alloc w _).1, ← rowA_of c F hc]
theorem Row.drewN {w : World} {b N : Nat} {t : TypeId} {F : Nat → Value} (h : Row w b N t F) (q : Nat) : Row (w.drewN q) b N t F := h
theorem Row.drew {w : World} {b N : Nat} {t : TypeId} {F : Nat → Value} (h : Row w b N t F) : Row w.drew b N t F := h

/-- All blocks below n stay, but those in S; the rest of the world stays. -/
structure Stay (n : Nat) (S : Nat → Prop) (w w' : World) : Prop where
  os : w'.os = w.os
  tape : w'.tape = w.tape
  output : w'.output = w.output
  size : w.heap.size ≤ w'.heap.size
  block : ∀ b, b < n → ¬ S b → w'.heap[b]? = w.heap[b]?

theorem Stay.refl (n : Nat) (S : Nat → Prop) (w : World) : Stay n S w w := ⟨rfl, rfl, rfl, Nat.le_refl _, fun _ _ _ => rfl⟩
theorem Stay.trans {n : Nat} {S : Nat → Prop} {a b c : World} (h : Stay n S a b) (k : Stay n S b c) : Stay n S a c :=
  ⟨k.os.trans h.os, k.tape.trans h.tape, k.output.trans h.output, Nat.le_trans h.size k.size, fun i hi hs => (k.block i hi hs).trans (h.block i hi hs)⟩
theorem Stay.set {n B o : Nat} {S : Nat → Prop} {w w' : World} (h : Stay n S w w') (v : Value) (hS : n ≤ B ∨ S B) : Stay n S w (w'.setCell ⟨B, o, none⟩ v) :=
  ⟨h.os, h.tape, h.output, by simp only [World.setCell, Array.size_modify]; exact h.size, fun b hb hs => (Below.heap_setCell _ _ _ _ (fun e => by subst e; rcases hS with q | q; exact absurd q (by omega); exact hs q)).trans (h.block b hb hs)⟩
theorem Stay.alloc {n : Nat} {S : Nat → Prop} {w w' : World} (h : Stay n S w w') (hn : n ≤ w'.heap.size) (o : Obj) : Stay n S w (w'.alloc o) :=
  ⟨h.os, h.tape, h.output, by have := h.size; simp; omega, fun b hb hs => ((MapKept.heap_alloc w' o).2 b (by omega)).trans (h.block b hb hs)⟩
theorem Stay.drewN {n : Nat} {S : Nat → Prop} {w w' : World} (h : Stay n S w w') (q : Nat) : Stay n S w (w'.drewN q) := ⟨h.os, h.tape, h.output, h.size, h.block⟩
theorem Stay.drew {n : Nat} {S : Nat → Prop} {w w' : World} (h : Stay n S w w') : Stay n S w w'.drew := ⟨h.os, h.tape, h.output, h.size, h.block⟩
theorem Row.stay {w w' : World} {b N n : Nat} {t : TypeId} {F : Nat → Value} {S : Nat → Prop} (h : Row w b N t F) (k : Stay n S w w') (hb : b < n) (hs : ¬ S b) : Row w' b N t F := (k.block b hb hs).trans h

/-- Cells of a row set one behind the other. -/
def updL (F : Nat → Value) : Nat → List Value → Nat → Value
  | _, [] => F
  | o, v :: vs => updL (upd F o v) (o + 1) vs
theorem Row.setCells {b N : Nat} {t : TypeId} : ∀ (vs : List Value) (o : Nat) (F : Nat → Value) (w : World), Row w b N t F → Row (w.setCells b o vs) b N t (updL F o vs)
  | [], _, _, _, h => h
  | v :: vs, o, F, w, h => by
    show Row ((w.setCell ⟨b, o, none⟩ v).setCells b (o + 1) vs) b N t _
    exact Row.setCells vs (o + 1) _ _ (h.set v)
theorem updL_out : ∀ (vs : List Value) (F : Nat → Value) (o k : Nat), k < o ∨ o + vs.length ≤ k → updL F o vs k = F k
  | [], _, _, _, _ => rfl
  | v :: vs, F, o, k, h => by
    simp only [List.length_cons] at h
    rw [updL, updL_out vs _ _ _ (by omega), upd_ne _ _ (by omega)]
theorem updL_in : ∀ (vs : List Value) (F : Nat → Value) (o j : Nat) (v : Value), vs[j]? = some v → updL F o vs (o + j) = v
  | [], _, _, _, _, h => by simp at h
  | x :: vs, F, o, 0, v, h => by
    simp at h
    rw [updL, updL_out vs _ _ _ (by omega), Nat.add_zero, upd_same, h]
  | x :: vs, F, o, j + 1, v, h => by
    simp at h
    rw [updL, show o + (j + 1) = (o + 1) + j by omega]
    exact updL_in vs _ _ j v h
theorem Stay.setCells {n B : Nat} {S : Nat → Prop} {w : World} (hS : n ≤ B ∨ S B) : ∀ (vs : List Value) (o : Nat) (w' : World), Stay n S w w' → Stay n S w (w'.setCells B o vs)
  | [], _, _, h => h
  | v :: vs, o, w', h => by
    show Stay n S w ((w'.setCell ⟨B, o, none⟩ v).setCells B (o + 1) vs)
    exact Stay.setCells hS vs (o + 1) _ (h.set v hS)
theorem size_setCells (B : Nat) : ∀ (vs : List Value) (o : Nat) (w : World), (w.setCells B o vs).heap.size = w.heap.size
  | [], _, _ => rfl
  | v :: vs, o, w => by
    show ((w.setCell ⟨B, o, none⟩ v).setCells B (o + 1) vs).heap.size = _
    rw [size_setCells B vs]
    simp [World.setCell]
/-- Zeros over zeros. -/
theorem updL_zero (n : Nat) : updL (fun _ => .int .u64 0) 0 (List.replicate n (.int .u64 0)) = fun _ => Value.int .u64 0 := by
  funext k
  by_cases h : k < n
  · have := updL_in (List.replicate n (.int .u64 0)) (fun _ => .int .u64 0) 0 k (.int .u64 0) (by simp [h])
    rwa [Nat.zero_add] at this
  · rw [updL_out _ _ _ _ (by simp; omega)]
theorem Stay.cell {n : Nat} {S : Nat → Prop} {w w' : World} (h : Stay n S w w') (b k : Nat) (hb : b < n) (hs : ¬ S b) : w'.cell? ⟨b, k, none⟩ = w.cell? ⟨b, k, none⟩ := World.cell?_of_block (h.block b hb hs)
theorem Stay.some {w w' : World} (h : Stay w.heap.size (fun _ => False) w w') {b k : Nat} {v : Value} (hc : w.cell? ⟨b, k, none⟩ = .some v) : w'.cell? ⟨b, k, none⟩ = .some v := by
  rw [h.cell b k (World.block_lt_of_cell? w _ hc) id]; exact hc
theorem Stay.next {a b c : World} (h : Stay a.heap.size (fun _ => False) a b) (k : Stay b.heap.size (fun _ => False) b c) : Stay a.heap.size (fun _ => False) a c :=
  ⟨k.os.trans h.os, k.tape.trans h.tape, k.output.trans h.output, Nat.le_trans h.size k.size, fun i hi hs => (k.block i (Nat.lt_of_lt_of_le hi h.size) id).trans (h.block i hi hs)⟩
theorem Stay.mono {n m : Nat} {S T : Nat → Prop} {w w' : World} (h : Stay n S w w') (hm : m ≤ n) (hS : ∀ b, b < m → S b → T b) : Stay m T w w' :=
  ⟨h.os, h.tape, h.output, h.size, fun b hb hs => h.block b (by omega) (fun e => hs (hS b hb e))⟩
theorem Row.congr {w : World} {b N : Nat} {t : TypeId} {F G : Nat → Value} (h : Row w b N t F) (e : ∀ k, k < N → F k = G k) : Row w b N t G := by
  unfold Row at *
  rw [h, rowA_congr e]
theorem info_parts {P : Program} {t : TypeId} {z : Value} {s b : Nat} (h : (P.info? t).map (fun i => (i.zero, i.size, i.bytes)) = .some (.some z, s, b)) : ∃ i, P.info? t = .some i ∧ i.zero = .some z ∧ i.size = s ∧ i.bytes = b := by
  cases hi : P.info? t with
  | none => rw [hi] at h; cases h
  | some i =>
    rw [hi] at h
    simp only [Option.map_some, Option.some.injEq, Prod.mk.injEq] at h
    exact ⟨i, rfl, h.1, h.2.1, h.2.2⟩
end Go.Proofs.Ybulkeaqa
