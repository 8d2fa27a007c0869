/- How the index's invariant turns, step by step: no walk here. -/
import Derived.Test.YbulkealsLaws
namespace Go.Proofs.Ybulkeals
open Go.RowKit Go.MapKept

theorem clr_other {H : Nat → Nat → Bool} {i j a b : Nat} (h : b ≠ j) : clr H i j a b = H a b := by simp [clr, h]
theorem clr_row {H : Nat → Nat → Bool} {i j a b : Nat} (h : a ≠ i) : clr H i j a b = H a b := by simp [clr, h]
theorem clr_same {H : Nat → Nat → Bool} {i j : Nat} : clr H i j i j = false := by simp [clr]
theorem put_other {H : Nat → Nat → Bool} {i j a b : Nat} (h : b ≠ j) : put H i j a b = H a b := by simp [put, h]
theorem put_row {H : Nat → Nat → Bool} {i j a b : Nat} (h : a ≠ i) : put H i j a b = H a b := by simp [put, h]
theorem put_same {H : Nat → Nat → Bool} {i j : Nat} : put H i j i j = true := by simp [put]

theorem MapIs.ne_cells {w : World} {b X : Nat} {f : ByteArray → Option Value} {c : Array Value} {t : TypeId} {fz : Nat × Nat} (h : MapIs w b f) (hx : w.heap[X]? = some (.cells c t fz)) : X ≠ b := by
  obtain ⟨es, k, hb, _⟩ := h
  rintro rfl
  rw [hb] at hx; cases hx

theorem kS_ne {j j' : Nat} (hj : j < 4) (hj' : j' < 4) (h : j' ≠ j) : kS j' ≠ kS j := fun e => h (kS_inj hj' hj e)
theorem iS_ne {j j' : Nat} (hj : j < 4) (hj' : j' < 4) (h : j' ≠ j) : iS j' ≠ iS j := fun e => h (iS_inj hj' hj e)

section
variable {w w1 : World} {B X bh bo bm : Nat} {fo fm fh : ByteArray → Option Value} {H : Nat → Nat → Bool} {M : Nat → Bool} {i j : Nat}

/-- 'delete(x.one, key)'. -/
theorem idx_one_del (h : IdxAt w B X bh bo bm fo fm H M fh) (hi : i < 4) (hj : j < 4) (hM : M j = false) (hp : H i j = true ∨ ∀ i', i' < 4 → H i' j = false)
    (hm : MapIs w1 bo (upd fo (kS j) none)) (ht : Turn bo w w1) : IdxAt w1 B X bh bo bm (upd fo (kS j) none) fm (clr H i j) M fh := by
  have hX := h.mo.ne_cells h.cell
  refine ⟨by rw [ht.block X hX]; exact h.cell, h.mh.of_block (ht.block _ h.ho), hm, h.mm.of_block (ht.block _ (Ne.symm h.om)), h.ho, h.hm, h.om, h.lh, h.lo, h.lm, ?_, ?_, h.key.sep, ?_⟩
  · intro j' hj' hM'
    obtain ⟨h1, h2⟩ := h.key.one j' hj' hM'
    refine ⟨h1, ?_⟩
    by_cases e : j' = j
    · subst e
      refine .inl ⟨upd_same _ _ _, fun i' hi' => ?_⟩
      by_cases ei : i' = i
      · subst ei; exact clr_same
      · rw [clr_row ei]
        rcases hp with hp | hp
        · rcases h2 with ⟨_, h2⟩ | ⟨i0, hi0, _, h2⟩
          · exact h2 i' hi'
          · have : i = i0 := by have := h2 i hi; rw [hp] at this; simpa using this.symm
            subst this
            rw [h2 i' hi']; simpa using ei
        · exact hp i' hi'
    · rw [upd_other _ _ (kS_ne hj hj' e)]
      simp only [clr_other e]
      exact h2
  · intro j' hj' hM'
    have e : j' ≠ j := by rintro rfl; rw [hM] at hM'; cases hM'
    obtain ⟨h1, s, g, h2, h3, h4, h5, h6, h7, h8⟩ := h.key.many j' hj' hM'
    rw [upd_other _ _ (kS_ne hj hj' e)]
    simp only [clr_other e]
    exact ⟨h1, s, g, h2, h3.of_block (ht.block _ h6), h4, h5, h6, h7, h8⟩
  · intro u hu
    rw [upd_other _ _ (hu j hj)]
    exact h.key.far u hu

/-- 'delete(ids, id)', and there is a holder left. -/
theorem idx_set_del (h : IdxAt w B X bh bo bm fo fm H M fh) (hi : i < 4) (hj : j < 4) (hM : M j = true) {s : Nat} {g : ByteArray → Option Value} (hs : fm (kS j) = some (.map (some s))) (hg : MapIs w s g)
    (hg1 : ∀ i, i < 4 → g (iS i) = if H i j then some (.agg #[]) else none) (hg2 : ∀ u, (∀ i, i < 4 → u ≠ iS i) → g u = none)
    (hm : MapIs w1 s (upd g (iS i) none)) (ht : Turn s w w1) (hl : ∃ i', i' < 4 ∧ clr H i j i' j = true) : IdxAt w1 B X bh bo bm fo fm (clr H i j) M fh := by
  have hX := hg.ne_cells h.cell
  obtain ⟨_, s', g', q2, q3, q4, q5, q6, q7, _⟩ := h.key.many j hj hM
  obtain rfl : s' = s := by rw [hs] at q2; simpa using q2.symm
  refine ⟨by rw [ht.block X hX]; exact h.cell, h.mh.of_block (ht.block _ (Ne.symm q5)), h.mo.of_block (ht.block _ (Ne.symm q6)), h.mm.of_block (ht.block _ (Ne.symm q7)), h.ho, h.hm, h.om, h.lh, h.lo, h.lm, ?_, ?_, h.key.sep, h.key.far⟩
  · intro j' hj' hM'
    have e : j' ≠ j := by rintro rfl; rw [hM] at hM'; cases hM'
    simp only [clr_other e]
    exact h.key.one j' hj' hM'
  · intro j' hj' hM'
    by_cases e : j' = j
    · subst e
      obtain ⟨h1, _⟩ := h.key.many j' hj' hM'
      refine ⟨h1, s', _, hs, hm, q4, q5, q6, q7, hl, ?_, ?_⟩
      · intro a ha
        by_cases ea : a = i
        · subst ea; rw [upd_same, clr_same]; rfl
        · rw [upd_other _ _ (iS_ne hi ha ea), clr_row ea, hg1 a ha]
      · intro u hu
        rw [upd_other _ _ (hu i hi)]; exact hg2 u hu
    · obtain ⟨h1, s2, g2, h2, h3, h4, h5, h6, h7, h8⟩ := h.key.many j' hj' hM'
      simp only [clr_other e]
      refine ⟨h1, s2, g2, h2, h3.of_block (ht.block _ ?_), h4, h5, h6, h7, h8⟩
      rintro rfl
      exact e (h.key.sep j' j s2 hj' hj h2 hs)

/-- 'delete(ids, id)' left nobody: 'delete(x.many, key)'. -/
theorem idx_many_del {w2 : World} (h : IdxAt w B X bh bo bm fo fm H M fh) (hj : j < 4) (hM : M j = true) {s : Nat} {g g1 : ByteArray → Option Value} (hs : fm (kS j) = some (.map (some s))) (hg : MapIs w s g)
    (hm1 : MapIs w1 s g1) (ht1 : Turn s w w1) (hm : MapIs w2 bm (upd fm (kS j) none)) (ht : Turn bm w1 w2) (hl : ∀ i', i' < 4 → clr H i j i' j = false) :
    IdxAt w2 B X bh bo bm fo (upd fm (kS j) none) (clr H i j) (fun a => if a = j then false else M a) fh := by
  have hX := hg.ne_cells h.cell
  have hX2 := h.mm.ne_cells h.cell
  obtain ⟨q1, s', g', q2, q3, q4, q5, q6, q7, _⟩ := h.key.many j hj hM
  obtain rfl : s' = s := by rw [hs] at q2; simpa using q2.symm
  refine ⟨by rw [ht.block X hX2, ht1.block X hX]; exact h.cell, h.mh.of_block (by rw [ht.block _ h.hm, ht1.block _ (Ne.symm q5)]), h.mo.of_block (by rw [ht.block _ h.om, ht1.block _ (Ne.symm q6)]), hm, h.ho, h.hm, h.om, h.lh, h.lo, h.lm, ?_, ?_, ?_, ?_⟩
  · intro j' hj' hM'
    by_cases e : j' = j
    · subst e
      exact ⟨upd_same _ _ _, .inl ⟨q1, hl⟩⟩
    · rw [upd_other _ _ (kS_ne hj hj' e)]
      simp only [clr_other e]
      exact h.key.one j' hj' (by simpa [e] using hM')
  · intro j' hj' hM'
    have e : j' ≠ j := by rintro rfl; simp at hM'
    obtain ⟨h1, s2, g2, h2, h3, h4, h5, h6, h7, h8⟩ := h.key.many j' hj' (by simpa [e] using hM')
    rw [upd_other _ _ (kS_ne hj hj' e)]
    simp only [clr_other e]
    refine ⟨h1, s2, g2, h2, h3.of_block ?_, h4, h5, h6, h7, h8⟩
    rw [ht.block _ h7, ht1.block]
    rintro rfl
    exact e (h.key.sep j' j s2 hj' hj h2 hs)
  · intro a b t ha hb h1 h2
    by_cases e : a = j
    · subst e; rw [upd_same] at h1; cases h1
    · by_cases e' : b = j
      · subst e'; rw [upd_same] at h2; cases h2
      · rw [upd_other _ _ (kS_ne hj ha e)] at h1
        rw [upd_other _ _ (kS_ne hj hb e')] at h2
        exact h.key.sep a b t ha hb h1 h2
  · intro u hu
    rw [upd_other _ _ (hu j hj)]
    exact h.key.far u hu

/-- 'ids[id] = struct{}{}'. -/
theorem idx_set_put (h : IdxAt w B X bh bo bm fo fm H M fh) (hi : i < 4) (hj : j < 4) (hM : M j = true) {s : Nat} {g : ByteArray → Option Value} (hs : fm (kS j) = some (.map (some s))) (hg : MapIs w s g)
    (hg1 : ∀ i, i < 4 → g (iS i) = if H i j then some (.agg #[]) else none) (hg2 : ∀ u, (∀ i, i < 4 → u ≠ iS i) → g u = none)
    (hm : MapIs w1 s (upd g (iS i) (some (.agg #[])))) (ht : Turn s w w1) : IdxAt w1 B X bh bo bm fo fm (put H i j) M fh := by
  have hX := hg.ne_cells h.cell
  obtain ⟨_, s', g', q2, q3, q4, q5, q6, q7, _⟩ := h.key.many j hj hM
  obtain rfl : s' = s := by rw [hs] at q2; simpa using q2.symm
  refine ⟨by rw [ht.block X hX]; exact h.cell, h.mh.of_block (ht.block _ (Ne.symm q5)), h.mo.of_block (ht.block _ (Ne.symm q6)), h.mm.of_block (ht.block _ (Ne.symm q7)), h.ho, h.hm, h.om, h.lh, h.lo, h.lm, ?_, ?_, h.key.sep, h.key.far⟩
  · intro j' hj' hM'
    have e : j' ≠ j := by rintro rfl; rw [hM] at hM'; cases hM'
    simp only [put_other e]
    exact h.key.one j' hj' hM'
  · intro j' hj' hM'
    by_cases e : j' = j
    · subst e
      obtain ⟨h1, _⟩ := h.key.many j' hj' hM'
      refine ⟨h1, s', _, hs, hm, q4, q5, q6, q7, ⟨i, hi, put_same⟩, ?_, ?_⟩
      · intro a ha
        by_cases ea : a = i
        · subst ea; rw [upd_same, put_same]; rfl
        · rw [upd_other _ _ (iS_ne hi ha ea), put_row ea, hg1 a ha]
      · intro u hu
        rw [upd_other _ _ (hu i hi)]; exact hg2 u hu
    · obtain ⟨h1, s2, g2, h2, h3, h4, h5, h6, h7, h8⟩ := h.key.many j' hj' hM'
      simp only [put_other e]
      refine ⟨h1, s2, g2, h2, h3.of_block (ht.block _ ?_), h4, h5, h6, h7, h8⟩
      rintro rfl
      exact e (h.key.sep j' j s2 hj' hj h2 hs)

/-- 'x.one[key] = id' where nobody held the key. -/
theorem idx_one_put (h : IdxAt w B X bh bo bm fo fm H M fh) (hi : i < 4) (hj : j < 4) (hM : M j = false) (hn : fo (kS j) = none)
    (hm : MapIs w1 bo (upd fo (kS j) (some (.string (iS i))))) (ht : Turn bo w w1) : IdxAt w1 B X bh bo bm (upd fo (kS j) (some (.string (iS i)))) fm (put H i j) M fh := by
  have hX := h.mo.ne_cells h.cell
  refine ⟨by rw [ht.block X hX]; exact h.cell, h.mh.of_block (ht.block _ h.ho), hm, h.mm.of_block (ht.block _ (Ne.symm h.om)), h.ho, h.hm, h.om, h.lh, h.lo, h.lm, ?_, ?_, h.key.sep, ?_⟩
  · intro j' hj' hM'
    obtain ⟨h1, h2⟩ := h.key.one j' hj' hM'
    refine ⟨h1, ?_⟩
    by_cases e : j' = j
    · subst e
      refine .inr ⟨i, hi, upd_same _ _ _, fun i' hi' => ?_⟩
      rcases h2 with ⟨_, h2⟩ | ⟨i0, hi0, h2, _⟩
      · by_cases ei : i' = i
        · subst ei; rw [put_same]; simp
        · rw [put_row ei, h2 i' hi']; simp [ei]
      · rw [hn] at h2; cases h2
    · rw [upd_other _ _ (kS_ne hj hj' e)]
      simp only [put_other e]
      exact h2
  · intro j' hj' hM'
    have e : j' ≠ j := by rintro rfl; rw [hM] at hM'; cases hM'
    obtain ⟨h1, s, g, h2, h3, h4, h5, h6, h7, h8⟩ := h.key.many j' hj' hM'
    rw [upd_other _ _ (kS_ne hj hj' e)]
    simp only [put_other e]
    exact ⟨h1, s, g, h2, h3.of_block (ht.block _ h6), h4, h5, h6, h7, h8⟩
  · intro u hu
    rw [upd_other _ _ (hu j hj)]
    exact h.key.far u hu

/-- The row held the key alone already. -/
theorem idx_stay (h : IdxAt w B X bh bo bm fo fm H M fh) (hH : H i j = true) : IdxAt w B X bh bo bm fo fm (put H i j) M fh := by
  have : put H i j = H := by
    funext a b
    by_cases e : a = i ∧ b = j
    · obtain ⟨rfl, rfl⟩ := e; rw [put_same, hH]
    · simp [put, e]
  rw [this]; exact h

/-- A second holder: the key goes over to 'many', with a new set in block s. -/
theorem idx_to_many {w2 w3 : World} (h : IdxAt w B X bh bo bm fo fm H M fh) (hi : i < 4) (hj : j < 4) (hM : M j = false) {i0 : Nat} (hi0 : i0 < 4) (hne : i0 ≠ i) (hf : fo (kS j) = some (.string (iS i0)))
    (hm1 : MapIs w1 bo (upd fo (kS j) none)) (ht1 : Turn bo w w1) {s : Nat} {g : ByteArray → Option Value} (hs : w1.heap.size ≤ s) (hBs : B ≤ w.heap.size)
    (hk2 : ∀ k, k < w1.heap.size → w2.heap[k]? = w1.heap[k]?) (hg : MapIs w2 s g) (hgv : ∀ u, g u = if u = iS i0 ∨ u = iS i then some (.agg #[]) else none)
    (hm3 : MapIs w3 bm (upd fm (kS j) (some (.map (some s))))) (ht3 : Turn bm w2 w3) :
    IdxAt w3 B X bh bo bm (upd fo (kS j) none) (upd fm (kS j) (some (.map (some s)))) (put H i j) (fun a => if a = j then true else M a) fh := by
  have hX := h.mo.ne_cells h.cell
  have hX2 := h.mm.ne_cells h.cell
  have hXl : X < w.heap.size := (Array.getElem?_eq_some_iff.1 h.cell).1
  have z1 := ht1.size
  have keep : ∀ k, k < w.heap.size → k ≠ bo → k ≠ bm → w3.heap[k]? = w.heap[k]? := fun k hk h1 h2 => by rw [ht3.block k h2, hk2 k (by omega), ht1.block k h1]
  have lh := h.mh.lt
  have lo := h.mo.lt
  have lm := h.mm.lt
  obtain ⟨o1, o2⟩ := h.key.one j hj hM
  have hH : ∀ i', i' < 4 → H i' j = decide (i' = i0) := by
    rcases o2 with ⟨o2, _⟩ | ⟨i1, hi1, o2, o3⟩
    · rw [hf] at o2; cases o2
    · have : i0 = i1 := by rw [hf] at o2; simp at o2; exact iS_inj hi0 hi1 o2
      subst this; exact o3
  have old : ∀ j' t, j' < 4 → fm (kS j') = some (.map (some t)) → t < w.heap.size := by
    intro j' t hj' ht
    cases hM' : M j' with
    | false => rw [(h.key.one j' hj' hM').1] at ht; cases ht
    | true =>
      obtain ⟨_, t', g', q2, q3, _⟩ := h.key.many j' hj' hM'
      rw [q2] at ht; simp at ht; subst ht
      exact q3.lt
  refine ⟨by rw [keep X hXl hX hX2]; exact h.cell, h.mh.of_block (keep _ lh h.ho h.hm), hm1.of_block (by rw [ht3.block _ h.om, hk2 _ (by omega)]), hm3, h.ho, h.hm, h.om, h.lh, h.lo, h.lm, ?_, ?_, ?_, ?_⟩
  · intro j' hj' hM'
    have e : j' ≠ j := by rintro rfl; simp at hM'
    rw [upd_other _ _ (kS_ne hj hj' e), upd_other _ _ (kS_ne hj hj' e)]
    simp only [put_other e]
    exact h.key.one j' hj' (by simpa [e] using hM')
  · intro j' hj' hM'
    by_cases e : j' = j
    · subst e
      refine ⟨upd_same _ _ _, s, g, upd_same _ _ _, hg.of_block (ht3.block _ (by omega)), by omega, by omega, by omega, by omega, ⟨i, hi, put_same⟩, ?_, ?_⟩
      · intro a ha
        rw [hgv]
        by_cases ea : a = i
        · subst ea; rw [put_same]; simp
        · rw [put_row ea, hH a ha]
          by_cases ea0 : a = i0
          · subst ea0; simp
          · have q1 := iS_ne hi0 ha ea0
            have q2 := iS_ne hi ha ea
            simp [q1, q2, ea0]
      · intro u hu
        rw [hgv, if_neg]
        rintro (h1 | h1)
        · exact hu i0 hi0 h1
        · exact hu i hi h1
    · obtain ⟨h1, s2, g2, h2, h3, h4, h5, h6, h7, h8⟩ := h.key.many j' hj' (by simpa [e] using hM')
      rw [upd_other _ _ (kS_ne hj hj' e), upd_other _ _ (kS_ne hj hj' e)]
      simp only [put_other e]
      exact ⟨h1, s2, g2, h2, h3.of_block (keep _ h3.lt h6 h7), h4, h5, h6, h7, h8⟩
  · intro a b t ha hb h1 h2
    by_cases e : a = j
    · by_cases e' : b = j
      · omega
      · subst e
        rw [upd_same] at h1
        rw [upd_other _ _ (kS_ne hj hb e')] at h2
        simp at h1; subst h1
        have := old b s hb h2
        omega
    · by_cases e' : b = j
      · subst e'
        rw [upd_same] at h2
        rw [upd_other _ _ (kS_ne hj ha e)] at h1
        simp at h2; subst h2
        have := old a s ha h1
        omega
      · rw [upd_other _ _ (kS_ne hj ha e)] at h1
        rw [upd_other _ _ (kS_ne hj hb e')] at h2
        exact h.key.sep a b t ha hb h1 h2
  · intro u hu
    rw [upd_other _ _ (hu j hj), upd_other _ _ (hu j hj)]
    exact h.key.far u hu
end
end Go.Proofs.Ybulkeals
