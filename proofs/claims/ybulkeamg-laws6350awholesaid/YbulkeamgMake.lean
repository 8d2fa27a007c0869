/- S6350A: ten rows made in one region, in whatever order. -/
import Derived.Test.YbulkeamgOr
import Derived.Laws.MakeOwn
namespace Go.Proofs.Ybulkeamg
open Go.RowKit
set_option linter.unusedSimpArgs false

/-- A region in whatever order, by an invariant that is let go of at will. -/
theorem wpAny_inv {P : Program} {md : Region.Mode} {ops : Array Oper} {Q : Exit → Act → World → Prop} (I : Nat → Array Bool → Act → World → Prop)
    (h : ∀ fuel L a w, I fuel L a w → wpAny P md ops Q fuel L a w ∨ ∃ k, fuel = k + 1 ∧ Region.ready md ops L ≠ [] ∧ ∀ i ∈ Region.ready md ops L, wpOp P ops Q i (I k (L.setIfInBounds i true)) a w) :
    ∀ fuel L a w, I fuel L a w → wpAny P md ops Q fuel L a w
  | 0, L, a, w, hI => by
    rcases h 0 L a w hI with h | ⟨k, hk, _⟩
    · exact h
    · cases hk
  | fuel + 1, L, a, w, hI => by
    rcases h (fuel + 1) L a w hI with h' | ⟨k, hk, hne, hs⟩
    · exact h'
    · have ek : fuel = k := by omega
      subst ek
      exact ⟨fun h0 => absurd h0 hne, fun i hi => wpOp_mono (fun a w => wpAny_inv I h fuel _ a w) (hs i hi)⟩

theorem wpOp_make {P : Program} {ops : Array Oper} {Q : Exit → Act → World → Prop} {i : Nat} {o : Oper} {a : Act} {w : World} {K : Act → World → Prop} (hi : ops[i]? = some o) (hg : o.guard = none) (t : TypeId) (s : Operand) (hop : o.op = .makeSlice t s s)
    (v : Value) (w' : World) (hrun : (Instr.makeSlice t (a.eval s) (a.eval s)).run P w = .ok v w') (hK : K (a.put o.dst v) w') : wpOp P ops Q i K a w := by
  refine wpOp_step hi fun K' hK' => ?_
  rw [if_pos (by simp [Region.wanted, hg])]
  unfold Oper.wp
  simp [execOp, hop, hrun, Result.andThen]
  exact hK' _ _ hK

def updV (X : Nat → Value) (j : Nat) (v : Value) : Nat → Value := fun i => if i = j then v else X i
def updB (b : Nat → Bool) (j : Nat) : Nat → Bool := fun i => if i = j then true else b i
def updN (b : Nat → Nat) (j : Nat) (v : Nat) : Nat → Nat := fun i => if i = j then v else b i
/-- How many of the ten are made. -/
def made10 (b : Nat → Bool) : Nat := (b 0).toNat + (b 1).toNat + (b 2).toNat + (b 3).toNat + (b 4).toNat + (b 5).toNat + (b 6).toNat + (b 7).toNat + (b 8).toNat + (b 9).toNat
theorem made10_upd {b : Nat → Bool} {j : Nat} (hj : j < 10) (h : b j = false) : made10 (updB b j) = made10 b + 1 := by
  have : j = 0 ∨ j = 1 ∨ j = 2 ∨ j = 3 ∨ j = 4 ∨ j = 5 ∨ j = 6 ∨ j = 7 ∨ j = 8 ∨ j = 9 := by omega
  rcases this with rfl | rfl | rfl | rfl | rfl | rfl | rfl | rfl | rfl | rfl <;> simp [made10, updB, h] <;> omega
theorem made10_lt {b : Nat → Bool} {j : Nat} (hj : j < 10) (h : b j = false) : made10 b < 10 := by
  have hb : ∀ x : Bool, x.toNat ≤ 1 := fun x => by cases x <;> simp
  have h0 := hb (b 0); have h1 := hb (b 1); have h2 := hb (b 2); have h3 := hb (b 3); have h4 := hb (b 4)
  have h5 := hb (b 5); have h6 := hb (b 6); have h7 := hb (b 7); have h8 := hb (b 8); have h9 := hb (b 9)
  have : j = 0 ∨ j = 1 ∨ j = 2 ∨ j = 3 ∨ j = 4 ∨ j = 5 ∨ j = 6 ∨ j = 7 ∨ j = 8 ∨ j = 9 := by omega
  rcases this with rfl | rfl | rfl | rfl | rfl | rfl | rfl | rfl | rfl | rfl <;> simp only [made10, h, Bool.toNat_false] <;> omega
theorem made10_all {b : Nat → Bool} (h : ∀ j, j < 10 → b j = true) : made10 b = 10 := by
  simp [made10, h 0, h 1, h 2, h 3, h 4, h 5, h 6, h 7, h 8, h 9]

/-- The rows made so far. -/
structure Made (w0 w : World) (n : Nat) (sz : Nat → Nat) (el : Nat → TypeId) (Z : Nat → Nat → Value) (b : Nat → Bool) (X : Nat → Value) (B : Nat → Nat) : Prop where
  val : ∀ j, j < 10 → b j = true → X j = .slice (some ⟨B j, 0, none⟩) n n
  low : ∀ j, j < 10 → b j = true → w0.heap.size ≤ B j
  row : ∀ j, j < 10 → b j = true → Row w (B j) (n * sz j) (el j) (Z j)
  ne : ∀ i j, i < 10 → j < 10 → i ≠ j → b i = true → b j = true → B i ≠ B j
  stay : Stay w0.heap.size (fun _ => False) w0 w

theorem Made.step {w0 w : World} {n : Nat} {sz : Nat → Nat} {el : Nat → TypeId} {Z : Nat → Nat → Value} {b : Nat → Bool} {X : Nat → Value} {B : Nat → Nat} (h : Made w0 w n sz el Z b X B) (j : Nat) (cs : Array Value) (hc : cs.size = n * sz j) (hz : ∀ k, k < cs.size → cs[k]? = some (Z j k)) :
    Made w0 (w.alloc (.cells cs (el j))) n sz el Z (updB b j) (updV X j (.slice (some ⟨w.heap.size, 0, none⟩) n n)) (updN B j w.heap.size) := by
  refine ⟨fun i hi hb => ?_, fun i hi hb => ?_, fun i hi hb => ?_, fun i k hi hk hne hbi hbk => ?_, h.stay.alloc h.stay.size _⟩
  · by_cases e : i = j
    · simp [updV, updN, e]
    · simp only [updB, if_neg e] at hb
      simp only [updV, updN, if_neg e]
      exact h.val i hi hb
  · by_cases e : i = j
    · simp only [updN, if_pos e]; exact h.stay.size
    · simp only [updB, if_neg e] at hb
      simp only [updN, if_neg e]
      exact h.low i hi hb
  · by_cases e : i = j
    · subst e
      have := Row.new w cs (el i) (Z i) hz
      rw [hc] at this
      simpa [updN] using this
    · simp only [updB, if_neg e] at hb
      simp only [updN, if_neg e]
      exact (h.row i hi hb).alloc _
  · by_cases e : i = j
    · have e2 : ¬ k = j := fun e2 => hne (e.trans e2.symm)
      simp only [updB, if_neg e2] at hbk
      simp only [updN, if_pos e, if_neg e2]
      have := (h.row k hk hbk).lt
      omega
    · simp only [updB, if_neg e] at hbi
      by_cases e2 : k = j
      · simp only [updN, if_neg e, if_pos e2]
        have := (h.row i hi hbi).lt
        omega
      · simp only [updB, if_neg e2] at hbk
        simp only [updN, if_neg e, if_neg e2]
        exact h.ne i k hi hk hne hbi hbk

theorem makes_any {P : Program} {ops : Array Oper} {Q : Exit → Act → World → Prop} (w0 : World) (n : Nat) (sz : Nat → Nat) (el : Nat → TypeId) (ty : Nat → TypeId) (z : Nat → Array Value)
    (A : (Nat → Value) → Act) (L : (Nat → Bool) → Array Bool)
    (hA : ∀ X j, j < 10 → ∀ v, (A X).put (some (13 + 2 * j)) v = A (updV X j v)) (hE : ∀ X j, j < 10 → (A X).eval (.tmp (12 + 2 * j)) = .int .i64 n)
    (hL : ∀ b j, j < 10 → (L b).setIfInBounds (6 + 2 * j) true = L (updB b j)) (hLa : ∀ b, (∀ j, j < 10 → b j = true) → L b = L fun _ => true) (hL1 : ∀ b j d, j < 10 → (L b).getD (6 + 2 * j) d = b j)
    (hL2 : ∀ b i d, i < 25 → (∀ j, j < 10 → i ≠ 6 + 2 * j) → (L b).getD i d = true) (hL3 : ∀ b i d, 25 ≤ i → i < 28 → (L b).getD i d = false)
    (hops : ops.size = 28) (hmk : ∀ j, j < 10 → ∃ o, ops[6 + 2 * j]? = some o ∧ o.guard = none ∧ o.dst = some (13 + 2 * j) ∧ o.op = .makeSlice (ty j) (.tmp (12 + 2 * j)) (.tmp (12 + 2 * j)) ∧ ∀ e ∈ o.after, e.on = 5 + 2 * j)
    (h25 : ∃ o, ops[25]? = some o ∧ ∀ j, j < 10 → ∃ e ∈ o.after, Region.binds .any e = true ∧ e.on = 6 + 2 * j)
    (h26 : ∃ o, ops[26]? = some o ∧ ∃ e ∈ o.after, Region.binds .any e = true ∧ e.on = 25) (h27 : ∃ o, ops[27]? = some o ∧ ∃ e ∈ o.after, Region.binds .any e = true ∧ e.on = 26)
    (hrun : ∀ j, j < 10 → ∀ w : World, (Instr.makeSlice (ty j) (.int .i64 n) (.int .i64 n)).run P w = .ok (.slice (some ⟨w.heap.size, 0, none⟩) n n) (w.alloc (.cells (madeCells (z j) (n * sz j)) (el j))))
    (hfin : ∀ X B w, Made w0 w n sz el (fun j k => (z j)[k % (z j).size]!) (fun _ => true) X B → wpAny P .any ops Q 3 (L fun _ => true) (A X) w)
    (w : World) (hw : Stay w0.heap.size (fun _ => False) w0 w) (X : Nat → Value) : wpAny P .any ops Q 13 (L fun _ => false) (A X) w := by
  refine wpAny_inv (fun fuel L' a' w' => ∃ b X B, L' = L b ∧ a' = A X ∧ fuel + made10 b = 13 ∧ Made w0 w' n sz el (fun j k => (z j)[k % (z j).size]!) b X B) ?_ 13 _ _ w
    ⟨fun _ => false, X, fun _ => 0, rfl, rfl, by simp [made10], ⟨fun _ _ h => by simp at h, fun _ _ h => by simp at h, fun _ _ h => by simp at h, fun _ _ _ _ _ h => by simp at h, hw⟩⟩
  rintro fuel _ _ w' ⟨b, X, B, rfl, rfl, hf, hM⟩
  by_cases hall : ∀ j, j < 10 → b j = true
  · left
    have := made10_all hall
    have ef : fuel = 3 := by omega
    rw [hLa b hall, ef]
    refine hfin X B w' ⟨fun j hj _ => hM.val j hj (hall j hj), fun j hj _ => hM.low j hj (hall j hj), fun j hj _ => hM.row j hj (hall j hj), fun i j hi hj hne _ _ => hM.ne i j hi hj hne (hall i hi) (hall j hj), hM.stay⟩
  · right
    obtain ⟨j, hj⟩ := Classical.not_forall.1 hall
    obtain ⟨hj, hb⟩ := Classical.not_imp.1 hj
    have hb : b j = false := by simpa using hb
    have hlt := made10_lt hj hb
    refine ⟨fuel - 1, by omega, ?_, ?_⟩
    · intro h0
      obtain ⟨o, ho, hg, hd, hop, haf⟩ := hmk j hj
      have hmem : (6 + 2 * j) ∈ Region.ready .any ops (L b) := by
        rw [mem_ready]
        refine ⟨(hL1 b j _ hj).trans hb, o, ho, ?_⟩
        intro e he _
        rw [haf e he]
        exact hL2 b _ _ (by omega) (fun i _ => by omega)
      rw [h0] at hmem
      cases hmem
    · intro i hi
      obtain ⟨hun, o, ho, haf⟩ := mem_ready.1 hi
      have hi28 : i < 28 := by rw [← hops]; exact (Array.getElem?_eq_some_iff.1 ho).1
      by_cases hi25 : i < 25
      · by_cases hm : ∀ j, j < 10 → i ≠ 6 + 2 * j
        · rw [hL2 b i _ hi25 hm] at hun; cases hun
        · obtain ⟨j', hj'⟩ := Classical.not_forall.1 hm
          obtain ⟨hj9, he⟩ := Classical.not_imp.1 hj'
          clear hj'
          have hj' : j' < 10 := hj9
          have he : i = 6 + 2 * j' := Classical.not_not.1 he
          subst he
          rw [hL1 b j' _ hj'] at hun
          obtain ⟨o', ho', hg, hd, hop, _⟩ := hmk j' hj'
          have := made10_upd hj' hun
          refine wpOp_make ho' hg _ _ hop _ _ (by rw [hE X j' hj']; exact hrun j' hj' w') ?_
          refine ⟨updB b j', updV X j' _, updN B j' w'.heap.size, hL b j' hj', by rw [hd, hA X j' hj'], by omega, hM.step j' _ (size_madeCells _ _) fun k hk => ?_⟩
          rw [size_madeCells] at hk
          simp [madeCells, hk]
      · exfalso
        have : i = 25 ∨ i = 26 ∨ i = 27 := by omega
        rcases this with rfl | rfl | rfl
        · obtain ⟨o', ho', h'⟩ := h25
          rw [ho] at ho'
          obtain rfl : o = o' := by simpa using ho'
          obtain ⟨e, he, hbd, hon⟩ := h' j hj
          have := haf e he hbd
          rw [hon, hL1 b j _ hj, hb] at this
          cases this
        · obtain ⟨o', ho', e, he, hbd, hon⟩ := h26
          rw [ho] at ho'
          obtain rfl : o = o' := by simpa using ho'
          have := haf e he hbd
          rw [hon, hL3 b 25 _ (by omega) (by omega)] at this
          cases this
        · obtain ⟨o', ho', e, he, hbd, hon⟩ := h27
          rw [ho] at ho'
          obtain rfl : o = o' := by simpa using ho'
          have := haf e he hbd
          rw [hon, hL3 b 26 _ (by omega) (by omega)] at this
          cases this
end Go.Proofs.Ybulkeamg
