/- The law's last part: copies, cuts and comparisons of slices of strings. -/
import Derived.Test.YbulkealsMid
import Derived.Laws.CopyOwn
namespace Go.Proofs.Ybulkeals
open Go.RowKit Go.MapKept Go.Maps Go.Sort Go.Shelf
set_option linter.unusedSimpArgs false

theorem SliceIs.kept {w w' : World} {B n : Nat} {a : Option Addr} {xs : List ByteArray} (h : SliceIs w a n xs) (hb : ∀ b off, a = some ⟨b, off, none⟩ → 0 < n → b < B) (hB : RowKit.Below B w w') : SliceIs w' a n xs := by
  refine ⟨h.1, fun hn => ?_⟩
  obtain ⟨b, off, e, hc⟩ := h.2 hn
  exact ⟨b, off, e, fun j hj => (hB.cell (p := ⟨b, off + j, none⟩) (hb b off e hn)).trans (hc j hj)⟩

theorem SliceIs.drewN {w : World} {n q : Nat} {a : Option Addr} {xs : List ByteArray} (h : SliceIs w a n xs) : SliceIs (w.drewN q) a n xs := h

/-- A slice that owns strings, as it lies, and where. -/
theorem owns_slice' {w : World} {base n : Nat} {v : Value} {xs : List ByteArray} (h : w.ownsRow base 9 1 v n (xs.map Value.string)) : ∃ a c, v = .slice a n c ∧ SliceIs w a n xs ∧ n ≤ c ∧ ∀ b off, a = some ⟨b, off, none⟩ → 0 < n → b < w.heap.size := by
  obtain ⟨a, c, rfl, h1, h2⟩ := owns_slice h
  refine ⟨a, c, rfl, h1, h2, fun b off e hn => ?_⟩
  subst e
  have := h.lt b
  simp [Value.ownBlock] at this
  exact this.2

theorem SliceIs.lo {w : World} {a : Option Addr} {m k : Nat} {xs ys : List ByteArray} (h : SliceIs w a (m + k) (xs ++ ys)) (hx : xs.length = m) : SliceIs w a m xs := by
  refine ⟨hx, fun hm => ?_⟩
  obtain ⟨b, off, e, hc⟩ := h.2 (by omega)
  refine ⟨b, off, e, fun j hj => ?_⟩
  rw [hc j (by omega)]
  simp [List.getD_eq_getElem?_getD, List.getElem?_append, hx, hj]

theorem SliceIs.hi {w : World} {a : Option Addr} {m k c : Nat} {xs ys : List ByteArray} (h : SliceIs w a (m + k) (xs ++ ys)) (hx : xs.length = m) (hc : m + k ≤ c) : SliceIs w (if c = m then a else a.map (·.add m)) (m + k - m) ys := by
  have hl := h.1
  rw [List.length_append, hx] at hl
  refine ⟨by omega, fun hk => ?_⟩
  obtain ⟨b, off, e, hcell⟩ := h.2 (by omega)
  subst e
  refine ⟨b, off + m, ?_, fun j hj => ?_⟩
  · rw [if_neg (by omega)]
    simp only [Option.map_some, Addr.add]
    split
    · rename_i h0; subst h0; rfl
    · rfl
  · rw [Nat.add_assoc, hcell (m + j) (by omega)]
    simp [List.getD_eq_getElem?_getD, List.getElem?_append, hx, show ¬ (m + j < m) by omega]

theorem size9 (w : World) : (sizeOf 9).run Yba.prog w = .ok 1 w := by kernel_rfl

theorem cut_lo (a : Option Addr) (n c m : Nat) (w : World) (h : m ≤ c) : (Instr.slice 23 (.slice a n c) none (some (.int .i64 m)) none).run Yba.prog w = .ok (.slice a m c) w := by
  have e : a.map (·.add (0 * 1)) = a := by cases a <;> simp [Addr.add]
  have h1 : (0 : Int) ≤ (m : Int) ∧ (m : Int) ≤ (c : Int) := by omega
  simp [Instr.slice, Instr.sliceBounds, Instr.sliceBound, run_underlying Yba.underlying23, asIntOf, Result.andThen, h, size9]
  cases a <;> simp [Addr.add]

theorem cut_hi (a : Option Addr) (n c m : Nat) (w : World) (h : m ≤ n) : (Instr.slice 23 (.slice a n c) (some (.int .i64 m)) none none).run Yba.prog w = .ok (.slice (if c = m then a else a.map (·.add m)) (n - m) (c - m)) w := by
  simp [Instr.slice, Instr.sliceBounds, Instr.sliceBound, run_underlying Yba.underlying23, asIntOf, Result.andThen, h, size9]

/-- 'copy(in, ids)', both of m elements. -/
theorem wpList_copy_all {w : World} {ops : Array Oper} {rest : List Oper} {o : Oper} {a : Act} {Q : Exit → Act → World → Prop} (hgd : o.guard = none) (d s : Operand)
    (ho : o.op = .call { callee := .builtin .copy, args := #[d, s], argTypes := #[23, 23] }) (base g m ic : Nat) (iA : Option Addr) (hd : a.eval d = .slice (some ⟨g, 0, none⟩) m m) (hs : a.eval s = .slice iA m ic)
    (old : List Value) (hown : w.ownsRow base 9 1 (.slice (some ⟨g, 0, none⟩) m m) m old) (xs : List ByteArray) (hx : SliceIs w iA m xs)
    (h : ∀ w', w'.ownsRow base 9 1 (.slice (some ⟨g, 0, none⟩) m m) m (xs.map Value.string) → RowKit.Below g w w' → wpList Yba.prog ops Q rest (a.put o.dst (goInt m)) w') : wpList Yba.prog ops Q (o :: rest) a w := by
  have hsz : (Yba.prog.info? 9).map (·.size) = some 1 := by kernel_rfl
  obtain ⟨hl, hx⟩ := hx
  by_cases hm : m = 0
  · subst hm
    have e1 := List.length_eq_zero_iff.1 hl
    subst e1
    refine wpList_copy_nothing hgd d s 23 23 ho 9 Yba.underlying23 hsz _ _ _ _ _ _ hd hs (by simp) ?_
    refine h w ?_ (RowKit.Below.refl _ _)
    have e2 : old = [] := by have := hown.1; exact List.length_eq_zero_iff.1 (by simpa using this)
    subst e2
    simpa using hown
  · obtain ⟨b, off, rfl, hc⟩ := hx (by omega)
    obtain ⟨h1, h2⟩ := hown
    rcases h2 with ⟨h2, _⟩ | ⟨g', cap, cur, h2, h3, h4, h5, h6, h7, h8⟩
    · cases h2
    · cases h2
      refine wpList_copy_own hgd d s 23 23 ho 9 Yba.underlying23 hsz g 0 m m ⟨b, off, none⟩ m ic hd hs cur 9 h4 (xs.map Value.string) (by simp [hl]) ?_ (by simp [hl, h7]) (by simp [Value.oneCell']) ?_
      · intro j v hv
        rw [List.getElem?_map] at hv
        have hj : j < xs.length := by
          refine Classical.byContradiction fun hno => ?_
          rw [List.getElem?_eq_none (by omega)] at hv; cases hv
        have := hc j (by omega)
        simp only [Addr.add]
        rw [List.getElem?_eq_getElem hj] at hv
        simp at hv
        rw [← hv]
        have e : (if j = 0 then (⟨b, off, none⟩ : Addr) else { block := b, off := off + j, spot := none }) = ⟨b, off + j, none⟩ := by
          split
          · rename_i h0; subst h0; rfl
          · rfl
        rw [e, this]
        simp [List.getD_eq_getElem?_getD, hj]
      · have e : goInt ((xs.map Value.string).length) = goInt m := by simp [hl]
        rw [e]
        have hcs : cur.size = m := by omega
        have ec : (cur.toList.take 0 ++ (xs.map Value.string ++ cur.toList.drop (0 + (xs.map Value.string).length))).toArray = (xs.map Value.string).toArray := by
          have : cur.toList.drop (0 + (xs.map Value.string).length) = [] := by
            apply List.drop_eq_nil_of_le
            simp [hl, hcs]
          rw [this]; simp
        rw [ec]
        refine h _ ⟨by simp [hl], .inr ⟨g, m, (xs.map Value.string).toArray, rfl, h3, ?_, Nat.le_refl _, h6, by simp [hl], by rw [Nat.mul_one]; exact List.take_of_length_le (by simp [hl])⟩⟩ ⟨rfl, rfl, rfl, by simp [World.setRow], fun k hk => setRow_other w g k _ (by omega)⟩
        exact setRow_heap w g cur _ 9 (0, 0) h4

theorem bdN {B : Nat} {a w : World} (h : RowKit.Below B a w) (n : Nat) : RowKit.Below B a (w.drewN n) := h.trans ⟨rfl, rfl, rfl, Nat.le_refl _, fun _ _ => rfl⟩
theorem ids_enc (ts : List Nat) : ts.map (fun i => Value.string (iS i)) = (ts.map fun i => (iS i).data.toList).map encStr := by
  rw [List.map_map]
  refine List.map_congr_left fun i _ => ?_
  exact (encStr_data (iS i)).symm
theorem ids_str (ts : List Nat) : ts.map (fun i => Value.string (iS i)) = (ts.map iS).map Value.string := by rw [List.map_map]; rfl
end Go.Proofs.Ybulkeals
