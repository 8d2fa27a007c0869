/- S6357B: tables of chains, as they are made. -/
import Derived.Test.YbulkeaqaBLists
import Derived.Laws.OwnMore
namespace Go.Proofs.Ybulkeaqa
open Go.RowKit Go.Shelf
set_option linter.unusedSimpArgs false

theorem made_row (w : World) (cs : Array Value) (n : Nat) (e : TypeId) (hc : 0 < cs.size) : Row (w.alloc (.cells (madeCells cs n) e)) w.heap.size n e (fun k => cs.getD (k % cs.size) undef) := by
  have hs : (madeCells cs n).size = n := size_madeCells cs n
  have := Row.new w (madeCells cs n) e (fun k => cs.getD (k % cs.size) undef) (fun k hk => by
    rw [hs] at hk
    have h9 : k % cs.size < cs.size := Nat.mod_lt _ hc
    simp [madeCells, hk, Array.getD, h9])
  rwa [hs] at this
/-- A table of empty chains. -/
theorem Fam.zero {w : World} {B M : Nat} {F : Nat → Value} (hr : Row w B (M * 25) 39 F) (hF : ∀ k, k < M * 25 → F k = z25.getD (k % 25) undef) : Fam w B M F (fun _ _ => 0) (fun _ => []) := by
  refine ⟨hr, fun j hj => ⟨fun k hk => ?_, fun t h1 h2 => ?_, fun t h1 h2 => ?_, fun t u h1 h2 => ?_⟩, fun j j' t t' _ _ _ hl => ?_, fun j _ e he => ?_⟩
  · rw [hF _ (by omega), show (j * 25 + k) % 25 = k by omega]
    have := z25_at hk
    rw [Array.getElem?_toList] at this
    rw [Array.getD_eq_getD_getElem?, this]; rfl
  · simp [nbk] at h2; omega
  · simp [nbk] at h2; omega
  · simp [nbk] at h2; omega
  · have := hl.2; have := hl.1; simp [nbk] at *; omega
  · simp at he

/-- A chain that was built is laid into the table. -/
theorem Fam.store {w w1 : World} {B M j : Nat} {F : Nat → Value} {ov : Nat → Nat → Nat} {L : Nat → List Ent} {es : List Ent} {oj : Nat → Nat} (h : Fam w B M F ov L) (hj : j < M) (hs : Stay w.heap.size (fun _ => False) w w1) (he : ∀ e ∈ es, e.Ok)
    (hr : ∀ t, 1 ≤ t → t < nbk es.length → Row w1 (oj t) 25 39 (bcell es (nxt oj es.length t) t) ∧ w.heap.size ≤ oj t) (hi : ∀ t u, 1 ≤ t → t < nbk es.length → 1 ≤ u → u < nbk es.length → oj t = oj u → t = u) :
    Fam (w1.setCells B (j * 25) (rowA 25 (bcell es (nxt oj es.length 0) 0)).toList) B M (updL F (j * 25) (rowA 25 (bcell es (nxt oj es.length 0) 0)).toList) (setO ov j oj) (setL L j es) := by
  have hB := h.row.lt
  have hlen : (rowA 25 (bcell es (nxt oj es.length 0) 0)).toList.length = 25 := by rw [Array.length_toList, rowA_size]
  have hst : ∀ b, b ≠ B → (w1.setCells B (j * 25) (rowA 25 (bcell es (nxt oj es.length 0) 0)).toList).heap[b]? = w1.heap[b]? := fun b hb => (Stay.setCells (n := b + 1) (S := fun x => x = B) (.inr rfl) _ (j * 25) w1 (Stay.refl _ _ w1)).block b (by omega) hb
  have hold : ∀ i t, i < M → live L i t → (w1.setCells B (j * 25) (rowA 25 (bcell es (nxt oj es.length 0) 0)).toList).heap[ov i t]? = w.heap[ov i t]? := fun i t hi' hl => (hst _ ((h.ch i hi').ne t hl.1 hl.2)).trans (hs.block _ ((h.ch i hi').ovs t hl.1 hl.2).lt id)
  refine ⟨Row.setCells _ _ _ _ (h.row.stay hs hB id), fun i hi' => ?_, fun i i' t t' hi1 hi2 hne hl hl' => ?_, fun i hi' => ?_⟩
  · by_cases e : i = j
    · subst e
      rw [setO_same, setL_same]
      refine ⟨fun k hk => ?_, fun t h1 h2 => (hst _ (by have := (hr t h1 h2).2; omega)).trans (hr t h1 h2).1, fun t h1 h2 => by have := (hr t h1 h2).2; omega, hi⟩
      exact updL_in _ _ _ k _ (by rw [Array.getElem?_toList, rowA_get _ hk])
    · rw [setO_ne _ _ e, setL_ne _ _ e]
      have hc := h.ch i hi'
      refine ⟨fun k hk => ?_, fun t h1 h2 => (hold i t hi' ⟨h1, h2⟩).trans (hc.ovs t h1 h2), hc.ne, hc.inj⟩
      rw [updL_out _ _ _ _ (by rw [hlen]; omega)]; exact hc.head k hk
  · have low : ∀ i s, i < M → live L i s → ov i s < w.heap.size := fun i s hi hs => ((h.ch i hi).ovs s hs.1 hs.2).lt
    by_cases e1 : i = j
    · have e2 : i' ≠ j := fun e => hne (by omega)
      subst e1
      unfold live at hl hl'
      rw [setL_same] at hl
      rw [setL_ne _ _ e2] at hl'
      rw [setO_same, setO_ne _ _ e2]
      have h1 := (hr t hl.1 hl.2).2
      have h2 := low i' t' hi2 hl'
      omega
    · unfold live at hl hl'
      rw [setL_ne _ _ e1] at hl
      rw [setO_ne _ _ e1]
      by_cases e2 : i' = j
      · subst e2
        rw [setL_same] at hl'
        rw [setO_same]
        have h1 := (hr t' hl'.1 hl'.2).2
        have h2 := low i t hi1 hl
        omega
      · rw [setL_ne _ _ e2] at hl'
        rw [setO_ne _ _ e2]
        exact h.sep i i' t t' hi1 hi2 hne hl hl'
  · by_cases e : i = j
    · subst e; rw [setL_same]; exact he
    · rw [setL_ne _ _ e]; exact h.ok i hi'
/-- The lists that are laid already. -/
def upTo (L : Nat → List Ent) (j : Nat) : Nat → List Ent := fun i => if i < j then L i else []
theorem upTo_succ (L : Nat → List Ent) (j : Nat) : setL (upTo L j) j (L j) = upTo L (j + 1) := by
  funext i
  unfold setL upTo
  by_cases e : i = j
  · subst e; simp
  · by_cases h : i < j
    · rw [if_neg e, if_pos h, if_pos (by omega)]
    · rw [if_neg e, if_neg h, if_neg (by omega)]
theorem upTo_all {w : World} {B M : Nat} {F : Nat → Value} {ov : Nat → Nat → Nat} {L : Nat → List Ent} (h : Fam w B M F ov (upTo L M)) : Fam w B M F ov L := by
  have e : ∀ j, j < M → upTo L M j = L j := fun j hj => by unfold upTo; rw [if_pos hj]
  refine ⟨h.row, fun j hj => ?_, fun j j' t t' hj hj' hne hl hl' => h.sep j j' t t' hj hj' hne (by unfold live; rw [e j hj]; exact hl) (by unfold live; rw [e j' hj']; exact hl'), fun j hj => ?_⟩
  · have := h.ch j hj; rwa [e j hj] at this
  · have := h.ok j hj; rwa [e j hj] at this
/-- How many overflow buckets the first j chains have. -/
def sumOv (L : Nat → List Ent) : Nat → Nat
  | 0 => 0
  | j + 1 => sumOv L j + (if 0 < (L j).length then ((L j).length - 1) / 8 else 0)
set_option maxRecDepth 100000 in
theorem sumOv_le {L : Nat → List Ent} (h : ∀ j, (L j).length ≤ 65536) : ∀ j, sumOv L j ≤ j * 8192
  | 0 => Nat.le_refl _
  | j + 1 => by
    have h1 := sumOv_le h j
    have h2 := h j
    rw [sumOv]
    split <;> omega

/-- The old table behind i rounds of its making, begun in w2. -/
structure OldTo (w2 wr : World) (Bo oldN : Nat) (mv : Nat → Bool) (O : Nat → List Ent) (i : Nat) (Fo : Nat → Value) (ovo : Nat → Nat → Nat) : Prop where
  old : Row wr Bo (oldN * 25) 39 Fo
  ch : ∀ j, j < i → mv j = false → Chain wr Bo (j * 25) Fo (ovo j) (O j)
  mvd : ∀ j, j < i → mv j = true → ∀ k, k < 25 → Fo (j * 25 + k) = mvc k
  zer : ∀ j, i ≤ j → j < oldN → ∀ k, k < 25 → Fo (j * 25 + k) = bcell [] (.pointer none) 0 k
  fr : ∀ j, j < i → mv j = false → ∀ t, 1 ≤ t → t < nbk (O j).length → w2.heap.size ≤ ovo j t
  st : Stay w2.heap.size (fun b => b = Bo) w2 wr
theorem OldTo.mark {w2 wr : World} {Bo oldN : Nat} {mv : Nat → Bool} {O : Nat → List Ent} {i : Nat} {Fo : Nat → Value} {ovo : Nat → Nat → Nat} (h : OldTo w2 wr Bo oldN mv O i Fo ovo) (hi : i < oldN) (hm : mv i = true) : OldTo w2 (wr.setCell ⟨Bo, i * 25, none⟩ (.int .u8 1)) Bo oldN mv O (i + 1) (upd Fo (i * 25) (.int .u8 1)) ovo := by
  refine ⟨h.old.set _, fun j hj hmj => ?_, fun j hj hmj k hk => ?_, fun j hj hjo k hk => ?_, fun j hj hmj => ?_, h.st.set _ (.inr rfl)⟩
  · have hne : j ≠ i := fun e => by subst e; rw [hm] at hmj; cases hmj
    have hc := h.ch j (by omega) hmj
    refine ⟨fun k hk => ?_, fun t h1 h2 => (hc.ovs t h1 h2).other _ (hc.ne t h1 h2), hc.ne, hc.inj⟩
    rw [upd_ne _ _ (by omega)]; exact hc.head k hk
  · by_cases e : j = i
    · subst e
      unfold upd mvc
      by_cases e2 : k = 0
      · rw [if_pos (by omega), if_pos e2]
      · rw [if_neg (by omega), if_neg e2]; exact h.zer j (Nat.le_refl _) hi k hk
    · rw [upd_ne _ _ (by omega)]; exact h.mvd j (by omega) hmj k hk
  · rw [upd_ne _ _ (by omega)]; exact h.zer j (by omega) hjo k hk
  · have hne : j ≠ i := fun e => by subst e; rw [hm] at hmj; cases hmj
    exact h.fr j (by omega) hmj
theorem OldTo.store {w2 wr w5 : World} {Bo oldN : Nat} {mv : Nat → Bool} {O : Nat → List Ent} {i : Nat} {Fo : Nat → Value} {ovo : Nat → Nat → Nat} {oj : Nat → Nat} (h : OldTo w2 wr Bo oldN mv O i Fo ovo) (hi : i < oldN) (hm : mv i = false) (hs : Stay wr.heap.size (fun _ => False) wr w5)
    (hr : ∀ t, 1 ≤ t → t < nbk (O i).length → Row w5 (oj t) 25 39 (bcell (O i) (nxt oj (O i).length t) t) ∧ wr.heap.size ≤ oj t) (hin : ∀ t u, 1 ≤ t → t < nbk (O i).length → 1 ≤ u → u < nbk (O i).length → oj t = oj u → t = u) :
    OldTo w2 (w5.setCells Bo (i * 25) (rowA 25 (bcell (O i) (nxt oj (O i).length 0) 0)).toList) Bo oldN mv O (i + 1) (updL Fo (i * 25) (rowA 25 (bcell (O i) (nxt oj (O i).length 0) 0)).toList) (setO ovo i oj) := by
  have hlen : (rowA 25 (bcell (O i) (nxt oj (O i).length 0) 0)).toList.length = 25 := by rw [Array.length_toList, rowA_size]
  have hst : ∀ b, b ≠ Bo → (w5.setCells Bo (i * 25) (rowA 25 (bcell (O i) (nxt oj (O i).length 0) 0)).toList).heap[b]? = w5.heap[b]? := fun b hb => (Stay.setCells (n := b + 1) (S := fun x => x = Bo) (.inr rfl) _ (i * 25) w5 (Stay.refl _ _ w5)).block b (by omega) hb
  have hBo := h.old.lt
  refine ⟨Row.setCells _ _ _ _ (h.old.stay hs hBo id), fun j hj hmj => ?_, fun j hj hmj k hk => ?_, fun j hj hjo k hk => ?_, fun j hj hmj t h1 h2 => ?_, ?_⟩
  · by_cases e : j = i
    · subst e
      rw [setO_same]
      refine ⟨fun k hk => updL_in _ _ _ k _ (by rw [Array.getElem?_toList, rowA_get _ hk]), fun t h1 h2 => (hst _ (by have := (hr t h1 h2).2; omega)).trans (hr t h1 h2).1, fun t h1 h2 => by have := (hr t h1 h2).2; omega, hin⟩
    · rw [setO_ne _ _ e]
      have hc := h.ch j (by omega) hmj
      refine ⟨fun k hk => ?_, fun t h1 h2 => (hst _ (hc.ne t h1 h2)).trans ((hs.block _ (hc.ovs t h1 h2).lt id).trans (hc.ovs t h1 h2)), hc.ne, hc.inj⟩
      rw [updL_out _ _ _ _ (by rw [hlen]; omega)]; exact hc.head k hk
  · have hne : j ≠ i := fun e => by subst e; rw [hm] at hmj; cases hmj
    rw [updL_out _ _ _ _ (by rw [hlen]; omega)]; exact h.mvd j (by omega) hmj k hk
  · rw [updL_out _ _ _ _ (by rw [hlen]; omega)]; exact h.zer j (by omega) hjo k hk
  · by_cases e : j = i
    · subst e; rw [setO_same]; have := (hr t h1 h2).2; have := h.st.size; omega
    · rw [setO_ne _ _ e]; exact h.fr j (by omega) hmj t h1 h2
  · have hz := h.st.size
    have h5 : Stay w2.heap.size (fun b => b = Bo) w2 w5 := ⟨hs.os.trans h.st.os, hs.tape.trans h.st.tape, hs.output.trans h.st.output, Nat.le_trans hz hs.size, fun b hb hx => (hs.block b (by omega) id).trans (h.st.block b hb hx)⟩
    exact Stay.setCells (S := fun b => b = Bo) (.inr rfl) _ _ _ h5
theorem one25 (es : List Ent) (p : Option Addr) : (rowA 25 (bcell es (.pointer p) 0)).all (·.oneCell') = true := by
  rw [Array.all_eq_true_iff_forall_mem]
  intro v hv
  obtain ⟨j, hj, he⟩ := Array.mem_iff_getElem.1 hv
  rw [rowA_size] at hj
  have := rowA_get (N := 25) (bcell es (.pointer p) 0) hj
  rw [Array.getElem?_eq_getElem (by rw [rowA_size]; exact hj)] at this
  have e2 : v = bcell es (.pointer p) 0 j := by rw [← he]; exact Option.some.inj this
  rw [e2]; exact bcell_one _ _ _ _
end Go.Proofs.Ybulkeaqa
