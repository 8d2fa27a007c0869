/- S6357B: a table's chains, all of them. -/
import Derived.Test.YbulkeaqaBSmall
namespace Go.Proofs.Ybulkeaqa
open Go.RowKit
set_option linter.unusedSimpArgs false

def live (L : Nat → List Ent) (j t : Nat) : Prop := 1 ≤ t ∧ t < nbk (L j).length
def setL (L : Nat → List Ent) (d : Nat) (es : List Ent) : Nat → List Ent := fun j => if j = d then es else L j
def setO (ov : Nat → Nat → Nat) (d : Nat) (o : Nat → Nat) : Nat → Nat → Nat := fun j => if j = d then o else ov j
theorem setL_same (L : Nat → List Ent) (d : Nat) (es : List Ent) : setL L d es d = es := by simp [setL]
theorem setL_ne (L : Nat → List Ent) {d j : Nat} (es : List Ent) (h : j ≠ d) : setL L d es j = L j := by simp [setL, h]
theorem setO_same (ov : Nat → Nat → Nat) (d : Nat) (o : Nat → Nat) : setO ov d o d = o := by simp [setO]
theorem setO_ne (ov : Nat → Nat → Nat) {d j : Nat} (o : Nat → Nat) (h : j ≠ d) : setO ov d o j = ov j := by simp [setO, h]

structure Fam (w : World) (Bn M : Nat) (F : Nat → Value) (ov : Nat → Nat → Nat) (L : Nat → List Ent) : Prop where
  row : Row w Bn (M * 25) 39 F
  ch : ∀ j, j < M → Chain w Bn (j * 25) F (ov j) (L j)
  sep : ∀ j j' t t', j < M → j' < M → j ≠ j' → live L j t → live L j' t' → ov j t ≠ ov j' t'
  ok : ∀ j, j < M → ∀ e ∈ L j, e.Ok

/-- A block of the family. -/
def Mine (Bn M : Nat) (ov : Nat → Nat → Nat) (L : Nat → List Ent) (b : Nat) : Prop := b = Bn ∨ ∃ j t, j < M ∧ live L j t ∧ b = ov j t

theorem Fam.on {w w' : World} {Bn M : Nat} {F : Nat → Value} {ov : Nat → Nat → Nat} {L : Nat → List Ent} (h : Fam w Bn M F ov L) (hs : ∀ b, Mine Bn M ov L b → w'.heap[b]? = w.heap[b]?) : Fam w' Bn M F ov L :=
  ⟨(hs Bn (.inl rfl)).trans h.row, fun j hj => ⟨(h.ch j hj).head, fun t h1 h2 => (hs _ (.inr ⟨j, t, hj, ⟨h1, h2⟩, rfl⟩)).trans ((h.ch j hj).ovs t h1 h2), (h.ch j hj).ne, (h.ch j hj).inj⟩, h.sep, h.ok⟩
theorem Fam.drewN {w : World} {Bn M : Nat} {F : Nat → Value} {ov : Nat → Nat → Nat} {L : Nat → List Ent} (h : Fam w Bn M F ov L) (q : Nat) : Fam (w.drewN q) Bn M F ov L := h.on fun _ _ => rfl
theorem Fam.lt {w : World} {Bn M : Nat} {F : Nat → Value} {ov : Nat → Nat → Nat} {L : Nat → List Ent} (h : Fam w Bn M F ov L) {b : Nat} (hb : Mine Bn M ov L b) : b < w.heap.size := by
  rcases hb with rfl | ⟨j, t, hj, hl, rfl⟩
  · exact h.row.lt
  · exact ((h.ch j hj).ovs t hl.1 hl.2).lt
theorem Fam.alloc {w : World} {Bn M : Nat} {F : Nat → Value} {ov : Nat → Nat → Nat} {L : Nat → List Ent} (h : Fam w Bn M F ov L) (o : Obj) : Fam (w.alloc o) Bn M F ov L := h.on fun b hb => (MapKept.heap_alloc w o).2 b (h.lt hb)
theorem Fam.set {w : World} {Bn M : Nat} {F : Nat → Value} {ov : Nat → Nat → Nat} {L : Nat → List Ent} (h : Fam w Bn M F ov L) {B k : Nat} (v : Value) (hB : ¬ Mine Bn M ov L B) : Fam (w.setCell ⟨B, k, none⟩ v) Bn M F ov L :=
  h.on fun b hb => Below.heap_setCell _ _ _ _ (fun e => hB (by have e' : b = B := e; rw [← e']; exact hb))

theorem Fam.put {w w' : World} {Bn M : Nat} {F F' : Nat → Value} {ov : Nat → Nat → Nat} {L : Nat → List Ent} {d : Nat} {e : Ent} {ov' : Nat → Nat} (h : Fam w Bn M F ov L) (hd : d < M) (he : e.Ok) (p : Put w w' Bn (M * 25) (d * 25) F (ov d) (L d) e F' ov') :
    Fam w' Bn M F' (setO ov d ov') (setL L d (L d ++ [e])) := by
  have hlen : (L d ++ [e]).length = (L d).length + 1 := by simp
  have nold : ∀ t, 1 ≤ t → t < nbk (L d ++ [e]).length → (t < nbk (L d).length ∧ ov' t = ov d t) ∨ ov' t = w.heap.size := fun t h1 h2 => by
    rw [hlen] at h2
    by_cases ht : t < nbk (L d).length
    · exact .inl ⟨ht, p.old t ht⟩
    · exact .inr (p.new t (by omega) h2)
  refine ⟨p.row, fun j hj => ?_, fun j j' t t' hj hj' hne hl hl' => ?_, fun j hj => ?_⟩
  · by_cases e1 : j = d
    · subst e1; rw [setO_same, setL_same]; exact p.chain
    · rw [setO_ne _ _ e1, setL_ne _ _ e1]
      have hc := h.ch j hj
      refine ⟨fun k hk => ?_, fun t h1 h2 => ?_, hc.ne, hc.inj⟩
      · rw [p.out _ (by omega)]; exact hc.head k hk
      · refine (p.stay.block _ (hc.ovs t h1 h2).lt ?_).trans (hc.ovs t h1 h2)
        rintro (e2 | ⟨t', h3, h4, e2⟩)
        · exact hc.ne t h1 h2 e2
        · exact h.sep j d t t' hj hd e1 ⟨h1, h2⟩ ⟨h3, h4⟩ e2
  · have low : ∀ i s, i < M → live L i s → ov i s < w.heap.size := fun i s hi hs => ((h.ch i hi).ovs s hs.1 hs.2).lt
    by_cases e1 : j = d
    · have e2 : j' ≠ d := fun e => hne (by omega)
      subst e1
      rw [setO_same, setO_ne _ _ e2]
      unfold live at hl hl'
      rw [setL_same] at hl
      rw [setL_ne _ _ e2] at hl'
      rcases nold t hl.1 hl.2 with ⟨h1, h2⟩ | h2
      · rw [h2]; exact h.sep j j' t t' hj hj' hne ⟨hl.1, h1⟩ hl'
      · rw [h2]; have := low j' t' hj' hl'; omega
    · by_cases e2 : j' = d
      · subst e2
        rw [setO_same, setO_ne _ _ e1]
        unfold live at hl hl'
        rw [setL_same] at hl'
        rw [setL_ne _ _ e1] at hl
        rcases nold t' hl'.1 hl'.2 with ⟨h1, h2⟩ | h2
        · rw [h2]; exact h.sep j j' t t' hj hj' hne hl ⟨hl'.1, h1⟩
        · rw [h2]; have := low j t hj hl; omega
      · rw [setO_ne _ _ e1, setO_ne _ _ e2]
        unfold live at hl hl'
        rw [setL_ne _ _ e1] at hl
        rw [setL_ne _ _ e2] at hl'
        exact h.sep j j' t t' hj hj' hne hl hl'
  · by_cases e1 : j = d
    · subst e1; rw [setL_same]
      intro x hx
      rcases List.mem_append.1 hx with hx | hx
      · exact h.ok j hj x hx
      · have : x = e := by simpa using hx
        rw [this]; exact he
    · rw [setL_ne _ _ e1]; exact h.ok j hj

/-- From w0 on: the family has grown; the blocks of X may have been written; all else lies as it lay. -/
structure Grow (w0 w : World) (Bn M : Nat) (ov0 : Nat → Nat → Nat) (L0 : Nat → List Ent) (X : Nat → Prop) (F : Nat → Value) (ov : Nat → Nat → Nat) (L : Nat → List Ent) : Prop where
  fam : Fam w Bn M F ov L
  from_ : ∀ j t, j < M → live L j t → (live L0 j t ∧ ov j t = ov0 j t) ∨ w0.heap.size ≤ ov j t
  stay : Stay w0.heap.size (fun b => Mine Bn M ov0 L0 b ∨ X b) w0 w
theorem Grow.mine {w0 w : World} {Bn M : Nat} {ov0 ov : Nat → Nat → Nat} {L0 L : Nat → List Ent} {X : Nat → Prop} {F : Nat → Value} (h : Grow w0 w Bn M ov0 L0 X F ov L) {b : Nat} (hb : b < w0.heap.size) (hm : Mine Bn M ov L b) : Mine Bn M ov0 L0 b := by
  rcases hm with rfl | ⟨j, t, hj, hl, rfl⟩
  · exact .inl rfl
  · rcases h.from_ j t hj hl with ⟨h1, h2⟩ | h2
    · exact .inr ⟨j, t, hj, h1, h2⟩
    · omega
theorem Grow.put {w0 w w' : World} {Bn M : Nat} {ov0 ov : Nat → Nat → Nat} {L0 L : Nat → List Ent} {X : Nat → Prop} {F F' : Nat → Value} {d : Nat} {e : Ent} {ov' : Nat → Nat} (h : Grow w0 w Bn M ov0 L0 X F ov L) (hd : d < M) (he : e.Ok) (p : Put w w' Bn (M * 25) (d * 25) F (ov d) (L d) e F' ov') :
    Grow w0 w' Bn M ov0 L0 X F' (setO ov d ov') (setL L d (L d ++ [e])) := by
  have hsz := h.stay.size
  refine ⟨h.fam.put hd he p, fun j t hj hl => ?_, ?_⟩
  · by_cases e1 : j = d
    · subst e1
      rw [setO_same]
      unfold live at hl
      rw [setL_same] at hl
      by_cases ht : t < nbk (L j).length
      · rw [p.old t ht]; exact h.from_ j t hj ⟨hl.1, ht⟩
      · rw [p.new t (by omega) (by have := hl.2; simpa using this)]; exact .inr hsz
    · rw [setO_ne _ _ e1]
      unfold live at hl
      rw [setL_ne _ _ e1] at hl
      exact h.from_ j t hj hl
  · refine ⟨p.stay.os.trans h.stay.os, p.stay.tape.trans h.stay.tape, p.stay.output.trans h.stay.output, Nat.le_trans hsz p.stay.size, fun b hb hs => (p.stay.block b (by omega) ?_).trans (h.stay.block b hb hs)⟩
    rintro (e2 | ⟨t, h1, h2, e2⟩)
    · exact hs (.inl (.inl e2))
    · exact hs (.inl (h.mine hb (.inr ⟨d, t, hd, ⟨h1, h2⟩, e2⟩)))
theorem Grow.set {w0 w : World} {Bn M : Nat} {ov0 ov : Nat → Nat → Nat} {L0 L : Nat → List Ent} {X : Nat → Prop} {F : Nat → Value} (h : Grow w0 w Bn M ov0 L0 X F ov L) {B k : Nat} (v : Value) (hX : X B) (hB : B < w0.heap.size) (hM : ¬ Mine Bn M ov0 L0 B) : Grow w0 (w.setCell ⟨B, k, none⟩ v) Bn M ov0 L0 X F ov L :=
  ⟨h.fam.set v (fun e => hM (h.mine hB e)), h.from_, h.stay.set v (.inr (.inr hX))⟩
theorem Grow.drewN {w0 w : World} {Bn M : Nat} {ov0 ov : Nat → Nat → Nat} {L0 L : Nat → List Ent} {X : Nat → Prop} {F : Nat → Value} (h : Grow w0 w Bn M ov0 L0 X F ov L) (q : Nat) : Grow w0 (w.drewN q) Bn M ov0 L0 X F ov L := ⟨h.fam.drewN q, h.from_, h.stay.drewN q⟩
theorem Grow.start {w0 : World} {Bn M : Nat} {ov0 : Nat → Nat → Nat} {L0 : Nat → List Ent} {X : Nat → Prop} {F : Nat → Value} (h : Fam w0 Bn M F ov0 L0) : Grow w0 w0 Bn M ov0 L0 X F ov0 L0 := ⟨h, fun _ _ _ hl => .inl ⟨hl, rfl⟩, Stay.refl _ _ _⟩
end Go.Proofs.Ybulkeaqa
