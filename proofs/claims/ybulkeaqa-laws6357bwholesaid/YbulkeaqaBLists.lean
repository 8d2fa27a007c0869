/- S6357B: the model's lists. -/
import Derived.Test.YbulkeaqaBSame
import Derived.Test.YbulkeaqaBState
import Derived.Deep.AppendLies
namespace Go.Proofs.Ybulkeaqa
open Go.RowKit Go.Shelf
set_option linter.unusedSimpArgs false

def cells3 (e : Ent) : List Value := [.int .u8 e.t, .int .u64 e.k, .int .i64 e.v]
def flat : List Ent → List Value
  | [] => []
  | e :: es => cells3 e ++ flat es
theorem flat_length : ∀ es : List Ent, (flat es).length = es.length * 3
  | [] => rfl
  | e :: es => by rw [flat, List.length_append, flat_length es]; simp [cells3]; omega
theorem flat_snoc : ∀ (es : List Ent) (e : Ent), flat (es ++ [e]) = flat es ++ cells3 e
  | [], e => by simp [flat]
  | x :: es, e => by rw [List.cons_append, flat, flat_snoc es e, flat, List.append_assoc]
theorem flat_get : ∀ (es : List Ent) (q : Nat), q < es.length → (flat es)[q * 3]? = some (.int .u8 (tg es q)) ∧ (flat es)[q * 3 + 1]? = some (.int .u64 (ky es q)) ∧ (flat es)[q * 3 + 2]? = some (.int .i64 (vl es q))
  | [], q, h => by simp at h
  | x :: es, 0, _ => ⟨rfl, rfl, rfl⟩
  | x :: es, q + 1, h => by
    have ih := flat_get es q (by simpa using h)
    have hs : ∀ j, (flat (x :: es))[j + 3]? = (flat es)[j]? := fun j => by
      rw [flat, List.getElem?_append_right (by simp [cells3])]; simp [cells3]
    have e1 : (q + 1) * 3 = q * 3 + 3 := by omega
    have h1 : tg (x :: es) (q + 1) = tg es q := by simp [tg]
    have h2 : ky (x :: es) (q + 1) = ky es q := by simp [ky]
    have h3 : vl (x :: es) (q + 1) = vl es q := by simp [vl]
    rw [e1, h1, h2, h3]
    refine ⟨(hs _).trans ih.1, ?_, ?_⟩
    · rw [show q * 3 + 3 + 1 = q * 3 + 1 + 3 by omega, hs]; exact ih.2.1
    · rw [show q * 3 + 3 + 2 = q * 3 + 2 + 3 by omega, hs]; exact ih.2.2

structure Lists (w : World) (base M : Nat) (V : Nat → Value) (L : Nat → List Ent) : Prop where
  own : ∀ j, j < M → w.ownsRow base 31 3 (V j) (L j).length (flat (L j))
  sep : ∀ j j' k, j < M → j' < M → j ≠ j' → (V j).ownBlock = some k → (V j').ownBlock ≠ some k

theorem own_on {w w' : World} {base : Nat} {e : TypeId} {s : Nat} {v : Value} {n : Nat} {xs : List Value} (h : w.ownsRow base e s v n xs) (hk : ∀ k, v.ownBlock = some k → w'.heap[k]? = w.heap[k]?) : w'.ownsRow base e s v n xs := by
  obtain ⟨h1, h2⟩ := h
  refine ⟨h1, ?_⟩
  rcases h2 with h2 | ⟨g, cap, cur, rfl, hb, hg, rest⟩
  · exact .inl h2
  · exact .inr ⟨g, cap, cur, rfl, hb, (hk g rfl).trans hg, rest⟩
theorem Lists.on {w w' : World} {base M : Nat} {V : Nat → Value} {L : Nat → List Ent} (h : Lists w base M V L) (hk : ∀ j k, j < M → (V j).ownBlock = some k → w'.heap[k]? = w.heap[k]?) : Lists w' base M V L :=
  ⟨fun j hj => own_on (h.own j hj) (fun k => hk j k hj), h.sep⟩
theorem Lists.kind {w : World} {base M : Nat} {V : Nat → Value} {L : Nat → List Ent} (h : Lists w base M V L) {j k : Nat} (hj : j < M) (hk : (V j).ownBlock = some k) : k < w.heap.size ∧ ∃ a, w.heap[k]? = some (.cells a 31 (0, 0)) := by
  obtain ⟨_, h2 | ⟨g, cap, cur, hv, hb, hg, _⟩⟩ := h.own j hj
  · rw [h2.1] at hk; cases hk
  · rw [hv] at hk
    have : g = k := by simpa [Value.ownBlock] using hk
    subst this
    exact ⟨(Array.getElem?_eq_some_iff.1 hg).1, cur, hg⟩
theorem Lists.low {w : World} {base M : Nat} {V : Nat → Value} {L : Nat → List Ent} (h : Lists w base M V L) {j k : Nat} (hj : j < M) (hk : (V j).ownBlock = some k) : base ≤ k := ((h.own j hj).lt k hk).1
theorem Lists.alloc {w : World} {base M : Nat} {V : Nat → Value} {L : Nat → List Ent} (h : Lists w base M V L) (o : Obj) : Lists (w.alloc o) base M V L :=
  h.on fun _ k hj hk => (MapKept.heap_alloc w o).2 k (h.kind hj hk).1
theorem Lists.drewN {w : World} {base M : Nat} {V : Nat → Value} {L : Nat → List Ent} (h : Lists w base M V L) (q : Nat) : Lists (w.drewN q) base M V L := h.on fun _ _ _ _ => rfl
theorem Lists.set {w : World} {base M : Nat} {V : Nat → Value} {L : Nat → List Ent} (h : Lists w base M V L) {B o N : Nat} {t : TypeId} {F : Nat → Value} (hB : Row w B N t F) (ht : t ≠ 31) (v : Value) : Lists (w.setCell ⟨B, o, none⟩ v) base M V L :=
  h.on fun j k hj hk => Below.heap_setCell _ _ _ _ (fun e => by
    obtain ⟨_, a, ha⟩ := h.kind hj hk
    have hb : w.heap[B]? = some (.cells (rowA N F) t (0, 0)) := hB
    have e' : k = B := e
    rw [e', hb] at ha
    cases ha
    exact ht rfl)
theorem Lists.lv {w : World} {base M : Nat} {V : Nat → Value} {L : Nat → List Ent} (h : Lists w base M V L) {j : Nat} (hj : j < M) : ∃ sA Bl c, V j = .slice sA (L j).length c ∧ Lv w sA Bl (L j) ∧ (0 < (L j).length → (V j).ownBlock = some Bl) := by
  obtain ⟨h1, h2 | ⟨g, cap, cur, hv, hb, hg, hn, hm, hc, ht⟩⟩ := h.own j hj
  · refine ⟨none, 0, 0, by rw [h2.1, h2.2], ⟨fun h0 => ?_, fun q hq => ?_, fun q hq => ?_, fun q hq => ?_⟩, fun h0 => ?_⟩ <;> omega
  · have hcell : ∀ k, k < (L j).length * 3 → w.cell? ⟨g, k, none⟩ = (flat (L j))[k]? := fun k hk => by
      rw [← ht, List.getElem?_take_of_lt hk]
      simp [World.cell?, hg]
    refine ⟨some ⟨g, 0, none⟩, g, cap, hv, ⟨fun _ => rfl, fun q hq => ?_, fun q hq => ?_, fun q hq => ?_⟩, fun _ => by rw [hv]; rfl⟩
    · rw [hcell _ (by omega)]; exact (flat_get _ q hq).1
    · rw [hcell _ (by omega)]; exact (flat_get _ q hq).2.1
    · rw [hcell _ (by omega)]; exact (flat_get _ q hq).2.2
theorem Lists.append {w w' : World} {base M : Nat} {V : Nat → Value} {L : Nat → List Ent} (h : Lists w base M V L) {d : Nat} (hd : d < M) {v' : Value} {e : Ent} (ho : w'.ownsRow base 31 3 v' ((L d).length + 1) (flat (L d) ++ cells3 e)) (hg : w.grownBy w' (V d).ownBlock) (hat : ∀ k, v'.ownBlock = some k → (V d).ownBlock = some k ∨ w.heap.size ≤ k) : Lists w' base M (upd V d v') (setL L d (L d ++ [e])) := by
  refine ⟨fun j hj => ?_, fun j j' k hj hj' hne h1 => ?_⟩
  · by_cases e1 : j = d
    · subst e1
      rw [upd_same, setL_same, List.length_append, flat_snoc]; exact ho
    · rw [upd_ne _ _ e1, setL_ne _ _ e1]
      refine (h.own j hj).kept hg ?_
      cases hb : (V j).ownBlock with
      | none => exact .inl rfl
      | some k => exact .inr (fun e => h.sep j d k hj hd e1 hb e.symm)
  · by_cases e1 : j = d
    · subst e1
      rw [upd_same] at h1
      rw [upd_ne _ _ (Ne.symm hne)]
      rcases hat k h1 with h2 | h2
      · exact h.sep j j' k hj hj' hne h2
      · intro h3; have := (h.kind hj' h3).1; omega
    · rw [upd_ne _ _ e1] at h1
      by_cases e2 : j' = d
      · subst e2
        rw [upd_same]
        intro h3
        rcases hat k h3 with h2 | h2
        · exact h.sep j j' k hj hj' hne h1 h2
        · have := (h.kind hj h1).1; omega
      · rw [upd_ne _ _ e2]; exact h.sep j j' k hj hj' hne h1
theorem Lists.clear {w : World} {base M : Nat} {V : Nat → Value} {L : Nat → List Ent} (h : Lists w base M V L) (d : Nat) : Lists w base M (upd V d (.slice none 0 0)) (setL L d []) := by
  refine ⟨fun j hj => ?_, fun j j' k hj hj' hne h1 => ?_⟩
  · by_cases e1 : j = d
    · subst e1; rw [upd_same, setL_same]; exact ⟨rfl, .inl ⟨rfl, rfl⟩⟩
    · rw [upd_ne _ _ e1, setL_ne _ _ e1]; exact h.own j hj
  · by_cases e1 : j = d
    · subst e1; rw [upd_same] at h1; cases h1
    · rw [upd_ne _ _ e1] at h1
      by_cases e2 : j' = d
      · subst e2; rw [upd_same]; intro h3; cases h3
      · rw [upd_ne _ _ e2]; exact h.sep j j' k hj hj' hne h1

/-- What stays: all below n but X and the rows of lists, which lie at 'base' or above. -/
structure K31 (base n : Nat) (X : Nat → Prop) (w w' : World) : Prop where
  os : w'.os = w.os
  tape : w'.tape = w.tape
  output : w'.output = w.output
  size : w.heap.size ≤ w'.heap.size
  block : ∀ b, b < n → ¬ X b → (base ≤ b → ∀ a fr, w.heap[b]? ≠ some (.cells a 31 fr)) → w'.heap[b]? = w.heap[b]?
theorem K31.refl (base n : Nat) (X : Nat → Prop) (w : World) : K31 base n X w w := ⟨rfl, rfl, rfl, Nat.le_refl _, fun _ _ _ _ => rfl⟩
theorem K31.trans {base n m : Nat} {X : Nat → Prop} {a b c : World} (h : K31 base n X a b) (k : K31 base m X b c) (hm : n ≤ m) : K31 base n X a c :=
  ⟨k.os.trans h.os, k.tape.trans h.tape, k.output.trans h.output, Nat.le_trans h.size k.size, fun i hi hx ht => (k.block i (by omega) hx (by rw [h.block i hi hx ht]; exact ht)).trans (h.block i hi hx ht)⟩
theorem K31.of {base n : Nat} {X : Nat → Prop} {w w' : World} (h : Stay n X w w') : K31 base n X w w' := ⟨h.os, h.tape, h.output, h.size, fun b hb hx _ => h.block b hb hx⟩
theorem K31.set {base n B o : Nat} {X : Nat → Prop} {w w' : World} (h : K31 base n X w w') (v : Value) (hX : n ≤ B ∨ X B) : K31 base n X w (w'.setCell ⟨B, o, none⟩ v) := h.trans (.of ((Stay.refl n X w').set v hX)) (Nat.le_refl _)
theorem K31.alloc {base n : Nat} {X : Nat → Prop} {w w' : World} (h : K31 base n X w w') (hn : n ≤ w'.heap.size) (o : Obj) : K31 base n X w (w'.alloc o) := h.trans (.of ((Stay.refl n X w').alloc hn o)) (Nat.le_refl _)
theorem K31.drewN {base n : Nat} {X : Nat → Prop} {w w' : World} (h : K31 base n X w w') (q : Nat) : K31 base n X w (w'.drewN q) := ⟨h.os, h.tape, h.output, h.size, h.block⟩
theorem K31.grown {base n : Nat} {X : Nat → Prop} {w w1 w2 : World} {row : Option Nat} (h : K31 base n X w w1) (hg : w1.grownBy w2 row) (hn : n ≤ w1.heap.size) (hr : ∀ k, row = some k → base ≤ k ∧ ∃ a, w1.heap[k]? = some (.cells a 31 (0, 0))) : K31 base n X w w2 :=
  h.trans ⟨hg.os, hg.tape, hg.output, hg.size, fun b hb hx ht => hg.block b (by omega) (fun e => by obtain ⟨h1, a, ha⟩ := hr b e.symm; exact ht h1 _ _ ha)⟩ (Nat.le_refl _)
theorem K31.mono {base n : Nat} {X Y : Nat → Prop} {w w' : World} (h : K31 base n X w w') (hx : ∀ b, X b → Y b) : K31 base n Y w w' := ⟨h.os, h.tape, h.output, h.size, fun b hb hy ht => h.block b hb (fun e => hy (hx b e)) ht⟩
theorem Row.k31 {w w' : World} {b N n base : Nat} {t : TypeId} {F : Nat → Value} {X : Nat → Prop} (h : Row w b N t F) (k : K31 base n X w w') (hb : b < n) (hx : ¬ X b) (ht : t ≠ 31) : Row w' b N t F :=
  (k.block b hb hx (fun _ a fr e => by
    have h' : w.heap[b]? = some (.cells (rowA N F) t (0, 0)) := h
    rw [h'] at e; cases e; exact ht rfl)).trans h
theorem Row.ne {w : World} {b b' N N' : Nat} {t t' : TypeId} {F F' : Nat → Value} (h : Row w b N t F) (h' : Row w b' N' t' F') (ht : t ≠ t') : b ≠ b' := fun e => by
  subst e
  have h1 : w.heap[b]? = some (.cells (rowA N F) t (0, 0)) := h
  have h2 : w.heap[b]? = some (.cells (rowA N' F') t' (0, 0)) := h'
  rw [h1] at h2
  injection h2 with h3
  injection h3 with _ h4 _
  exact ht h4

/-- The model's blocks. -/
structure ZG where
  Bz : Nat
  Bv : Nat
  Bol : Nat
  Bnl : Nat
  base : Nat
def zF (z : ZG) (oldN newN next : Nat) (ended : Bool) (mig ov hc : Nat) (k : Nat) : Value :=
  (#[.int .i64 oldN, .int .i64 newN, .slice (some ⟨z.Bv, 0, none⟩) oldN oldN, .slice (some ⟨z.Bol, 0, none⟩) oldN oldN, .slice (some ⟨z.Bnl, 0, none⟩) newN newN, .int .i64 next, .bool ended, .int .u64 mig, .int .i64 ov, .int .i64 hc] : Array Value).getD k undef
def LL (newN : Nat) (L O : Nat → List Ent) : Nat → List Ent := fun k => if k < newN then L k else O (k - newN)
theorem LL_new {newN : Nat} {L O : Nat → List Ent} {k : Nat} (h : k < newN) : LL newN L O k = L k := by simp [LL, h]
theorem LL_old {newN : Nat} {L O : Nat → List Ent} (i : Nat) : LL newN L O (newN + i) = O i := by unfold LL; rw [if_neg (by omega), Nat.add_sub_cancel_left]
theorem LL_setL {newN : Nat} {L O : Nat → List Ent} {d : Nat} (h : d < newN) (x : List Ent) : setL (LL newN L O) d x = LL newN (setL L d x) O := by
  funext k
  unfold setL LL
  by_cases e : k = d
  · subst e; simp [h]
  · simp [e]
theorem LL_setO {newN : Nat} {L O : Nat → List Ent} (i : Nat) (x : List Ent) : setL (LL newN L O) (newN + i) x = LL newN L (setL O i x) := by
  funext k
  unfold setL LL
  by_cases e : k = newN + i
  · subst e
    rw [if_pos rfl, if_neg (by omega)]
    simp
  · rw [if_neg e]
    by_cases h : k < newN
    · simp [h]
    · have h9 : ¬ k - newN = i := by omega
      simp [h, h9]
structure MZ (z : ZG) (g : Geo) (w : World) (p : Pl) (V : Nat → Value) : Prop where
  zr : Row w z.Bz 10 28 (zF z g.oldN g.newN p.nx (decide (p.nx = g.oldN)) p.mig p.ovc p.cl)
  mr : Row w z.Bv g.oldN 4 (fun j => .bool (p.mv j))
  nr : Row w z.Bnl g.newN 32 V
  orr : Row w z.Bol g.oldN 32 (fun i => V (g.newN + i))
  ls : Lists w z.base (g.newN + g.oldN) V (LL g.newN p.L p.O)
  ne : z.Bol ≠ z.Bnl
  bs : z.base ≤ w.heap.size
end Go.Proofs.Ybulkeaqa
