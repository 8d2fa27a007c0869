/- The laws of YbulkealsMap at the operation, for the walk; the index's invariant and how it turns. -/
import Derived.Test.YbulkealsMap
import Derived.Test.YbulkealsRows
namespace Go.Proofs.Ybulkeals
open Go.RowKit Go.MapKept
set_option linter.unusedSimpArgs false

section
variable {P : Program} (w : World) {ops : Array Oper} {rest : List Oper} {o : Oper} {a : Act} {Q : Exit → Act → World → Prop}

theorem wpList_delete_m (hg : o.guard = none) (m x : Operand) (t k : TypeId) (hop : o.op = Op.call { callee := Callee.builtin Builtin.delete, args := #[m, x], argTypes := #[t, k] })
    (e : TypeId) (ht : P.underlying t = some (.map k e)) (hk : P.underlying k = some .string) (b : Nat) (f : ByteArray → Option Value)
    (hm : a.eval m = .map (some b)) (hown : MapIs w b f) (s : ByteArray) (hx : a.eval x = .string s)
    (hK : ∀ w', MapIs w' b (upd f s none) → Turn b w w' → wpList P ops Q rest (a.put o.dst (.tuple #[])) w') :
    wpList P ops Q (o :: rest) a w := by
  refine wpList_plain hg fun K' hK' => ?_
  obtain ⟨w', hrun, r1, r2⟩ := hown.drop ht hk s o.type
  unfold Oper.wp
  simp [execOp, hop, resolve, invoke, builtin, hm, hx, hrun, Result.andThen]
  exact hK' _ _ (hK w' r1 r2)

theorem wpList_update_m (hg : o.guard = none) (m x v : Operand) (t : TypeId) (hop : o.op = Op.mapUpdate t m x v)
    (k e : TypeId) (ht : P.underlying t = some (.map k e)) (hk : P.underlying k = some .string) (b : Nat) (f : ByteArray → Option Value)
    (hm : a.eval m = .map (some b)) (hown : MapIs w b f) (s : ByteArray) (val : Value) (hx : a.eval x = .string s) (hv : a.eval v = val)
    (hK : ∀ w', MapIs w' b (upd f s (some val)) → Turn b w w' → wpList P ops Q rest (a.put o.dst undef) w') :
    wpList P ops Q (o :: rest) a w := by
  refine wpList_plain hg fun K' hK' => ?_
  obtain ⟨w', hrun, r1, r2⟩ := hown.store ht hk s val
  unfold Oper.wp
  simp [execOp, hop, hm, hx, hv, hrun, Result.andThen]
  exact hK' _ _ (hK w' r1 r2)

theorem wpList_lookup_m (hg : o.guard = none) (m x : Operand) (t : TypeId) (c : Bool) (hop : o.op = Op.lookup t m x c)
    (k e : TypeId) (ht : P.underlying t = some (.map k e)) (hk : P.underlying k = some .string) {z : Value} (hz : (zeroValue e).run P w = .ok z w) (b : Nat) (f : ByteArray → Option Value)
    (hm : a.eval m = .map (some b)) (hown : MapIs w b f) (s : ByteArray) (hx : a.eval x = .string s) (v : Value) (hv : (if c then .tuple #[(f s).getD z, .bool (f s).isSome] else (f s).getD z) = v)
    (hK : wpList P ops Q rest (a.put o.dst v) w) :
    wpList P ops Q (o :: rest) a w := by
  refine wpList_plain hg fun K' hK' => ?_
  have hrun := hown.look ht hk hz s c
  rw [hv] at hrun
  unfold Oper.wp
  simp [execOp, hop, hm, hx, hrun, Result.andThen]
  exact hK' _ _ hK

theorem wpList_len_m (hg : o.guard = none) (m : Operand) (t : TypeId) (hop : o.op = Op.call { callee := Callee.builtin Builtin.len, args := #[m], argTypes := #[t] })
    (k e : TypeId) (ht : P.underlying t = some (.map k e)) (b : Nat) (f : ByteArray → Option Value) (hm : a.eval m = .map (some b)) (hown : MapIs w b f)
    (hK : ∀ n : Nat, (n = 0 ↔ ∀ s, f s = none) → wpList P ops Q rest (a.put o.dst (.int .i64 n)) w) :
    wpList P ops Q (o :: rest) a w := by
  refine wpList_plain hg fun K' hK' => ?_
  obtain ⟨n, hrun, hn⟩ := hown.len ht o.type
  unfold Oper.wp
  simp [execOp, hop, resolve, invoke, builtin, hm, hrun, Result.andThen]
  exact hK' _ _ (hK n hn)
end

/-! ### The index -/
def kS : Nat → ByteArray
  | 0 => ⟨#[]⟩
  | 1 => ⟨#[97]⟩
  | 2 => ⟨#[98]⟩
  | _ => ⟨#[99]⟩
def iS : Nat → ByteArray
  | 0 => ⟨#[112]⟩
  | 1 => ⟨#[113]⟩
  | 2 => ⟨#[114]⟩
  | _ => ⟨#[115]⟩

theorem lt4 {i : Nat} (h : i < 4) : i = 0 ∨ i = 1 ∨ i = 2 ∨ i = 3 := by omega
theorem kS_inj {i j : Nat} (hi : i < 4) (hj : j < 4) (h : kS i = kS j) : i = j := by
  rcases lt4 hi with rfl | rfl | rfl | rfl <;> rcases lt4 hj with rfl | rfl | rfl | rfl <;> simp [kS] at h ⊢
theorem iS_inj {i j : Nat} (hi : i < 4) (hj : j < 4) (h : iS i = iS j) : i = j := by
  rcases lt4 hi with rfl | rfl | rfl | rfl <;> rcases lt4 hj with rfl | rfl | rfl | rfl <;> simp [iS] at h ⊢

/-- What is no map, and what lies below B, is as it was. -/
structure Keep (B : Nat) (w w' : World) : Prop where
  os : w'.os = w.os
  tape : w'.tape = w.tape
  output : w'.output = w.output
  size : w.heap.size ≤ w'.heap.size
  block : ∀ k, k < w.heap.size → (k < B ∨ ∀ es c, w.heap[k]? ≠ some (.map es c)) → w'.heap[k]? = w.heap[k]?

theorem Keep.refl (B : Nat) (w : World) : Keep B w w := ⟨rfl, rfl, rfl, Nat.le_refl _, fun _ _ _ => rfl⟩
theorem Keep.trans {B : Nat} {a b c : World} (h : Keep B a b) (k : Keep B b c) : Keep B a c :=
  ⟨k.os.trans h.os, k.tape.trans h.tape, k.output.trans h.output, Nat.le_trans h.size k.size, fun i hi hc => by
    have e := h.block i hi hc
    rw [k.block i (Nat.lt_of_lt_of_le hi h.size) (hc.imp id fun hc es c => by rw [e]; exact hc es c), e]⟩
theorem Keep.below {B : Nat} {w w' : World} (h : Keep B w w') {b : Nat} (hb : b ≤ B) (hw : b ≤ w.heap.size) : Below b w w' :=
  ⟨h.os, h.tape, h.output, h.size, fun k hk => h.block k (by omega) (.inl (by omega))⟩
theorem Keep.cells {B : Nat} {w w' : World} (h : Keep B w w') {k : Nat} {c : Array Value} {t : TypeId} {fz : Nat × Nat} (hk : w.heap[k]? = some (.cells c t fz)) : w'.heap[k]? = some (.cells c t fz) := by
  rw [h.block k (Array.getElem?_eq_some_iff.1 hk).1 (.inr fun es c => by rw [hk]; simp), hk]
theorem Keep.turn {B b : Nat} {w w' : World} {f : ByteArray → Option Value} (hm : MapIs w b f) (hB : B ≤ b) (h : Turn b w w') : Keep B w w' := by
  obtain ⟨es, c, hb, _⟩ := hm
  refine ⟨h.os, h.tape, h.output, by rw [h.size]; exact Nat.le_refl _, fun k _ hc => h.block k ?_⟩
  rintro rfl
  rcases hc with hc | hc
  · omega
  · exact hc es c hb
theorem Keep.drew {B : Nat} {w w' : World} (h : Keep B w w') : Keep B w w'.drew := ⟨h.os, h.tape, h.output, h.size, h.block⟩
theorem Keep.alloc {B : Nat} {w w' : World} (h : Keep B w w') (o : Obj) : Keep B w (w'.alloc o) :=
  h.trans ⟨rfl, rfl, rfl, by simp, fun k hk _ => (heap_alloc w' o).2 k hk⟩

/-- A key's state: H i j: row i holds key j; M j: key j is kept in 'many'. -/
structure KeyPart (w : World) (B bh bo bm : Nat) (fo fm : ByteArray → Option Value) (H : Nat → Nat → Bool) (M : Nat → Bool) : Prop where
  one : ∀ j, j < 4 → M j = false → fm (kS j) = none ∧ ((fo (kS j) = none ∧ ∀ i, i < 4 → H i j = false) ∨ ∃ i, i < 4 ∧ fo (kS j) = some (.string (iS i)) ∧ ∀ i', i' < 4 → H i' j = decide (i' = i))
  many : ∀ j, j < 4 → M j = true → fo (kS j) = none ∧ ∃ s g, fm (kS j) = some (.map (some s)) ∧ MapIs w s g ∧ B ≤ s ∧ s ≠ bh ∧ s ≠ bo ∧ s ≠ bm ∧ (∃ i, i < 4 ∧ H i j = true) ∧ (∀ i, i < 4 → g (iS i) = if H i j then some (.agg #[]) else none) ∧ ∀ u, (∀ i, i < 4 → u ≠ iS i) → g u = none
  sep : ∀ j j' s, j < 4 → j' < 4 → fm (kS j) = some (.map (some s)) → fm (kS j') = some (.map (some s)) → j = j'
  far : ∀ u, (∀ j, j < 4 → u ≠ kS j) → fo u = none ∧ fm u = none

structure IdxAt (w : World) (B X bh bo bm : Nat) (fo fm : ByteArray → Option Value) (H : Nat → Nat → Bool) (M : Nat → Bool) (fh : ByteArray → Option Value) : Prop where
  cell : w.heap[X]? = some (.cells #[.map (some bh), .map (some bo), .map (some bm)] 42 (0, 0))
  mh : MapIs w bh fh
  mo : MapIs w bo fo
  mm : MapIs w bm fm
  ho : bh ≠ bo
  hm : bh ≠ bm
  om : bo ≠ bm
  lh : B ≤ bh
  lo : B ≤ bo
  lm : B ≤ bm
  key : KeyPart w B bh bo bm fo fm H M

def Idx (w : World) (B X : Nat) (H : Nat → Nat → Bool) (M : Nat → Bool) (fh : ByteArray → Option Value) : Prop :=
  ∃ bh bo bm fo fm, IdxAt w B X bh bo bm fo fm H M fh

def clr (H : Nat → Nat → Bool) (i j : Nat) : Nat → Nat → Bool := fun a b => if a = i ∧ b = j then false else H a b
def put (H : Nat → Nat → Bool) (i j : Nat) : Nat → Nat → Bool := fun a b => if a = i ∧ b = j then true else H a b

end Go.Proofs.Ybulkeals
