/- Maps keyed by strings, as functions: block b of w is a map that holds just f. No dump is named here. -/
import Derived.MapKept
import Derived.WalkKit
import Derived.Maps.OwnSet
namespace Go.Proofs.Ybulkeals
open Go.RowKit Go.MapKept
set_option linter.unusedSimpArgs false

def upd (f : ByteArray → Option Value) (s : ByteArray) (v : Option Value) : ByteArray → Option Value := fun t => if t = s then v else f t

theorem upd_same (f : ByteArray → Option Value) (s : ByteArray) (v : Option Value) : upd f s v s = v := by simp [upd]
theorem upd_other (f : ByteArray → Option Value) {s t : ByteArray} (v : Option Value) (h : t ≠ s) : upd f s v t = f t := by simp [upd, h]

/-- Block b of w is a map keyed by strings; f is what it holds. -/
def MapIs (w : World) (b : Nat) (f : ByteArray → Option Value) : Prop :=
  ∃ es clock, w.heap[b]? = some (.map es clock) ∧ Stamped es clock ∧ (∀ x ∈ es.toList, IsKey .string x.key) ∧ ∀ s v, f s = some v ↔ ∃ x ∈ es.toList, x.key = .string s ∧ x.val = v

/-- Nothing but block b has turned. -/
structure Turn (b : Nat) (w w' : World) : Prop where
  os : w'.os = w.os
  tape : w'.tape = w.tape
  output : w'.output = w.output
  size : w'.heap.size = w.heap.size
  block : ∀ k, k ≠ b → w'.heap[k]? = w.heap[k]?

theorem MapIs.of_block {w w' : World} {b : Nat} {f : ByteArray → Option Value} (h : MapIs w b f) (e : w'.heap[b]? = w.heap[b]?) : MapIs w' b f := by
  obtain ⟨es, clock, hb, r⟩ := h
  exact ⟨es, clock, e.trans hb, r⟩

theorem MapIs.lt {w : World} {b : Nat} {f : ByteArray → Option Value} (h : MapIs w b f) : b < w.heap.size := by
  obtain ⟨es, clock, hb, r⟩ := h
  exact (Array.getElem?_eq_some_iff.1 hb).1

theorem mapIs_made (w : World) : MapIs (w.alloc (.map #[] 0)) w.heap.size (fun _ => none) :=
  ⟨#[], 0, (heap_alloc w _).1, stamped_empty 0, by simp, by simp⟩

theorem turn_set {w : World} {r : Nat} {o : Obj} (o' : Obj) (hb : w.heap[r]? = some o) : Turn r w { w with heap := w.heap.setIfInBounds r o' } :=
  ⟨rfl, rfl, rfl, by simp, fun k hk => (heap_set hb).2 k hk⟩

section
variable {P : Program} {w : World} {b : Nat} {f : ByteArray → Option Value} {t k e : TypeId}

theorem MapIs.look (h : MapIs w b f) (ht : P.underlying t = some (.map k e)) (hk : P.underlying k = some .string) {z : Value} (hz : (zeroValue e).run P w = .ok z w) (s : ByteArray) (c : Bool) :
    (Instr.lookup t (.map (some b)) (.string s) c).run P w = .ok (if c then .tuple #[(f s).getD z, .bool (f s).isSome] else (f s).getD z) w := by
  obtain ⟨es, clock, hb, hs, hks, hf⟩ := h
  rcases findNow_spec (k := .string s) (d := .string) trivial es.toList 0 hks with ⟨h1, h2⟩ | ⟨j, x, h1, h2, h3⟩
  · have hn : f s = none := by
      cases hfs : f s with
      | none => rfl
      | some v => obtain ⟨x, hx, hx1, _⟩ := (hf s v).1 hfs; exact absurd hx1 (h2 x hx)
    simp [Instr.lookup, run_underlying ht, MapKept.run_getObj_map hb, run_checkKey hk (k := .string s) trivial, run_findKey hk h1, Result.andThen, hz, hn]
  · have hn : f s = some x.val := (hf s x.val).2 ⟨x, List.mem_of_getElem? h2, h3, rfl⟩
    simp [Instr.lookup, run_underlying ht, MapKept.run_getObj_map hb, run_checkKey hk (k := .string s) trivial, run_findKey hk h1, Result.andThen, hn]

theorem look_nil (ht : P.underlying t = some (.map k e)) (hk : P.underlying k = some .string) {z : Value} (hz : (zeroValue e).run P w = .ok z w) (s : ByteArray) (c : Bool) :
    (Instr.lookup t (.map none) (.string s) c).run P w = .ok (if c then .tuple #[z, .bool false] else z) w := by
  have h1 : Instr.findNow .string (.string s) [] 0 = some none := rfl
  simp [Instr.lookup, run_underlying ht, run_checkKey hk (k := .string s) trivial, run_findKey hk h1, Result.andThen, hz]

theorem MapIs.store (h : MapIs w b f) (ht : P.underlying t = some (.map k e)) (hk : P.underlying k = some .string) (s : ByteArray) (v : Value) :
    ∃ w', (Instr.mapUpdate t (.map (some b)) (.string s) v).run P w = .ok () w' ∧ MapIs w' b (upd f s (some v)) ∧ Turn b w w' := by
  obtain ⟨es, clock, hb, hs, hks, hf⟩ := h
  have hkey : IsKey .string (.string s) := trivial
  rcases findNow_spec (k := .string s) (d := .string) trivial es.toList 0 hks with ⟨h1, h2⟩ | ⟨j, x, h1, h2, h3⟩
  · refine ⟨{ w with heap := w.heap.setIfInBounds b (.map (es.push { key := .string s, val := v, born := clock }) (clock + 1)) }, ?_, ⟨_, _, (heap_set hb).1, stamped_push hs h2, ?_, ?_⟩, turn_set _ hb⟩
    · simp [Instr.mapUpdate, run_underlying ht, MapKept.run_getObj_map hb, run_checkKey hk hkey, run_findKey hk h1, run_setObj_map _ hb, Result.andThen]
    · intro x hx
      simp only [Array.toList_push, List.mem_append, List.mem_singleton] at hx
      rcases hx with hx | rfl
      · exact hks x hx
      · exact hkey
    · intro u y
      simp only [Array.toList_push, List.mem_append, List.mem_singleton]
      by_cases hu : u = s
      · subst hu
        rw [upd_same]
        constructor
        · intro hy; cases hy; exact ⟨_, .inr rfl, rfl, rfl⟩
        · rintro ⟨x, hx | rfl, hx1, hx2⟩
          · exact absurd hx1 (h2 x hx)
          · rw [← hx2]
      · rw [upd_other _ _ hu, hf u y]
        constructor
        · rintro ⟨x, hx, hx1, hx2⟩; exact ⟨x, .inl hx, hx1, hx2⟩
        · rintro ⟨x, hx | rfl, hx1, hx2⟩
          · exact ⟨x, hx, hx1, hx2⟩
          · simp at hx1; exact absurd hx1.symm hu
  · have hj : es[j]? = some x := by simpa using h2
    have hjs : es.toList[j]? = some x := by simpa using h2
    refine ⟨{ w with heap := w.heap.setIfInBounds b (.map (es.modify j fun e => { e with key := .string s, val := v }) clock) }, ?_, ⟨_, _, (heap_set hb).1, ?_, ?_, ?_⟩, turn_set _ hb⟩
    · simp [Instr.mapUpdate, run_underlying ht, MapKept.run_getObj_map hb, run_checkKey hk hkey, run_findKey hk h1, hj, h3, run_keyThatStays hkey, run_setObj_map _ hb, Result.andThen]
    · exact stamped_modify hs _ _ (fun _ _ => rfl) (fun e' _ he' => by rw [hj] at he'; cases he'; exact h3.symm)
    · exact isKey_modify hks _ _ (fun e' he' => by rw [hj] at he'; cases he'; exact h3.symm)
    · have hmem : ∀ y : MapEntry, y ∈ (es.modify j fun e => { e with key := .string s, val := v }).toList ↔ (y = { x with key := .string s, val := v }) ∨ (y ∈ es.toList ∧ y.key ≠ .string s) := by
        intro y
        rw [List.mem_iff_getElem?]
        constructor
        · rintro ⟨i, hi⟩
          rw [Array.getElem?_toList, Array.getElem?_modify] at hi
          split at hi
          · rename_i hij; subst hij; rw [hj] at hi; simp at hi; exact .inl hi.symm
          · rename_i hij
            refine .inr ⟨List.mem_of_getElem? (by simpa using hi), fun hyk => ?_⟩
            have hnd := ((stamped_iff es clock).1 hs).2.2
            have hi' : es.toList[i]? = some y := by simpa using hi
            obtain ⟨hil, hie⟩ := List.getElem?_eq_some_iff.1 hi'
            obtain ⟨hjl, hje⟩ := List.getElem?_eq_some_iff.1 hjs
            rcases Nat.lt_or_gt_of_ne hij with hlt | hlt
            · exact List.pairwise_iff_getElem.1 hnd j i hjl hil hlt (by rw [hie, hje, hyk, h3])
            · exact List.pairwise_iff_getElem.1 hnd i j hil hjl hlt (by rw [hie, hje, hyk, h3])
        · rintro (rfl | ⟨hy, hyk⟩)
          · exact ⟨j, by rw [Array.getElem?_toList, Array.getElem?_modify, if_pos rfl, hj]; rfl⟩
          · obtain ⟨i, hi⟩ := List.mem_iff_getElem?.1 hy
            refine ⟨i, ?_⟩
            rw [Array.getElem?_toList, Array.getElem?_modify, if_neg]
            · simpa using hi
            · rintro rfl; rw [hjs] at hi; cases hi; exact hyk h3
      intro u y
      by_cases hu : u = s
      · subst hu
        rw [upd_same]
        constructor
        · intro hy; cases hy; exact ⟨_, (hmem _).2 (.inl rfl), rfl, rfl⟩
        · rintro ⟨z, hz, hz1, hz2⟩
          rcases (hmem z).1 hz with rfl | ⟨_, hne⟩
          · rw [← hz2]
          · exact absurd hz1 hne
      · rw [upd_other _ _ hu, hf u y]
        constructor
        · rintro ⟨z, hz, hz1, hz2⟩; exact ⟨z, (hmem z).2 (.inr ⟨hz, by rw [hz1]; simpa using hu⟩), hz1, hz2⟩
        · rintro ⟨z, hz, hz1, hz2⟩
          rcases (hmem z).1 hz with rfl | ⟨hz', _⟩
          · simp at hz1; exact absurd hz1.symm hu
          · exact ⟨z, hz', hz1, hz2⟩

theorem MapIs.drop (h : MapIs w b f) (ht : P.underlying t = some (.map k e)) (hk : P.underlying k = some .string) (s : ByteArray) (ty : TypeId) :
    ∃ w', (Builtin.delete_ #[t, k] ty #[.map (some b), .string s]).run P w = .ok (.tuple #[]) w' ∧ MapIs w' b (upd f s none) ∧ Turn b w w' := by
  obtain ⟨es, clock, hb, hs, hks, hf⟩ := h
  have hkey : IsKey .string (.string s) := trivial
  rcases findNow_spec (k := .string s) (d := .string) trivial es.toList 0 hks with ⟨h1, h2⟩ | ⟨j, x, h1, h2, h3⟩
  · refine ⟨{ w with heap := w.heap.setIfInBounds b (.map es clock) }, ?_, ⟨_, _, (heap_set hb).1, hs, hks, ?_⟩, turn_set _ hb⟩
    · simp [Builtin.delete_, run_underlying ht, MapKept.run_getObj_map hb, run_checkKey hk hkey, run_findKey hk h1, run_setObj_map _ hb, Result.andThen]
    · intro u y
      by_cases hu : u = s
      · subst hu
        rw [upd_same]
        constructor
        · intro hy; cases hy
        · rintro ⟨z, hz, hz1, _⟩; exact absurd hz1 (h2 z hz)
      · rw [upd_other _ _ hu, hf u y]
  · have hjs : es.toList[j]? = some x := by simpa using h2
    obtain ⟨hjl, hje⟩ := List.getElem?_eq_some_iff.1 hjs
    have hjl' : j < es.size := by simpa using hjl
    have hsub : (es.eraseIdxIfInBounds j).toList = es.toList.eraseIdx j := by
      unfold Array.eraseIdxIfInBounds
      rw [dif_pos hjl']
      simp only [Array.toList_eraseIdx]
    refine ⟨{ w with heap := w.heap.setIfInBounds b (.map (es.eraseIdxIfInBounds j) clock) }, ?_, ⟨_, _, (heap_set hb).1, stamped_erase hs _, ?_, ?_⟩, turn_set _ hb⟩
    · simp [Builtin.delete_, run_underlying ht, MapKept.run_getObj_map hb, run_checkKey hk hkey, run_findKey hk h1, run_setObj_map _ hb, Result.andThen]
    · intro z hz
      rw [hsub] at hz
      exact hks z ((List.eraseIdx_sublist _ _).subset hz)
    · have hmem : ∀ y : MapEntry, y ∈ es.toList.eraseIdx j ↔ y ∈ es.toList ∧ y.key ≠ .string s := by
        intro y
        have hnd := ((stamped_iff es clock).1 hs).2.2
        rw [List.mem_eraseIdx_iff_getElem?]
        constructor
        · rintro ⟨i, hij, hi⟩
          refine ⟨List.mem_of_getElem? hi, fun hyk => ?_⟩
          obtain ⟨hil, hie⟩ := List.getElem?_eq_some_iff.1 hi
          rcases Nat.lt_or_gt_of_ne hij with hlt | hlt
          · exact List.pairwise_iff_getElem.1 hnd i j hil hjl hlt (by rw [hie, hje, hyk, h3])
          · exact List.pairwise_iff_getElem.1 hnd j i hjl hil hlt (by rw [hie, hje, hyk, h3])
        · rintro ⟨hy, hyk⟩
          obtain ⟨i, hi⟩ := List.mem_iff_getElem?.1 hy
          exact ⟨i, by rintro rfl; rw [hjs] at hi; cases hi; exact hyk h3, hi⟩
      intro u y
      rw [hsub]
      by_cases hu : u = s
      · subst hu
        rw [upd_same]
        constructor
        · intro hy; cases hy
        · rintro ⟨z, hz, hz1, _⟩; exact absurd hz1 ((hmem z).1 hz).2
      · rw [upd_other _ _ hu, hf u y]
        constructor
        · rintro ⟨z, hz, hz1, hz2⟩; exact ⟨z, (hmem z).2 ⟨hz, by rw [hz1]; simpa using hu⟩, hz1, hz2⟩
        · rintro ⟨z, hz, hz1, hz2⟩; exact ⟨z, ((hmem z).1 hz).1, hz1, hz2⟩

theorem MapIs.len (h : MapIs w b f) (ht : P.underlying t = some (.map k e)) (ty : TypeId) :
    ∃ n : Nat, (Builtin.len_ #[t] ty #[.map (some b)]).run P w = .ok (.int .i64 n) w ∧ (n = 0 ↔ ∀ s, f s = none) := by
  obtain ⟨es, clock, hb, hs, hks, hf⟩ := h
  refine ⟨es.size, by simp [Builtin.len_, run_underlying ht, MapKept.run_getObj_map hb, goInt, Result.andThen], ?_⟩
  constructor
  · intro h0 s
    cases hfs : f s with
    | none => rfl
    | some v =>
      obtain ⟨x, hx, _⟩ := (hf s v).1 hfs
      have : es.toList.length = 0 := by simpa using h0
      rw [List.length_eq_zero_iff.1 this] at hx; cases hx
  · intro h0
    cases hl : es.toList with
    | nil => simpa using congrArg List.length hl
    | cons x l =>
      have hx : x ∈ es.toList := by rw [hl]; exact .head _
      have := hks x hx
      cases hxk : x.key with
      | string s => have := (hf s x.val).2 ⟨x, hx, hxk, rfl⟩; rw [h0 s] at this; cases this
      | _ => rw [hxk] at this; exact this.elim
end
end Go.Proofs.Ybulkeals
