/- Contracts of the small functions, and of the library's three in the words of this proof. -/
import Derived.Test.YbulkealsSet
import Derived.Test.YbulkealsIds
import Derived.Test.YbulkealsShelf
import Derived.Sort.OwnSorted
namespace Go.Proofs.Ybulkeals
open Go.RowKit Go.MapKept Go.Maps Go.Sort Go.Shelf
set_option linter.unusedSimpArgs false

theorem key_any (j : Nat) (hj : j < 4) (w : World) : Calls Yba.prog 5 #[.int .i64 j] w fun e w' => e = .returned (.string (kS j)) ∧ w = w' := by
  rcases lt4 hj with rfl | rfl | rfl | rfl
  all_goals
    go_enter Yba.func5, Yba.ntmps5
    go_wp2
    go_ret
    exact ⟨rfl, rfl⟩

theorem id_any (j : Nat) (hj : j < 4) (w : World) : Calls Yba.prog 7 #[.int .i64 j] w fun e w' => e = .returned (.string (iS j)) ∧ w = w' := by
  rcases lt4 hj with rfl | rfl | rfl | rfl
  all_goals
    go_enter Yba.func7, Yba.ntmps7
    go_wp2
    go_ret
    exact ⟨rfl, rfl⟩

/-- 'newIndex()': nobody holds anything. -/
theorem new_any (w : World) : Calls Yba.prog 4 #[] w fun e w' => e = .returned (.pointer (some ⟨w.heap.size + 3, 0, none⟩)) ∧ (∃ M fh, Idx w' w.heap.size (w.heap.size + 3) (hof fun _ => []) M fh ∧ HeldAt w' fh (fun _ => [])) ∧ Below w.heap.size w w' := by
  have hmm := @run_makeMap Yba.prog
  go_enter Yba.func4, Yba.ntmps4
  go_wp2
  go_ret
  obtain ⟨w1, e1⟩ : ∃ w1, w.alloc (.map #[] 0) = w1 := ⟨_, rfl⟩
  have m1 := mapIs_made w
  rw [e1] at m1 ⊢
  have z1 : w1.heap.size = w.heap.size + 1 := by rw [← e1]; simp
  obtain ⟨w2, e2⟩ : ∃ w2, w1.alloc (.map #[] 0) = w2 := ⟨_, rfl⟩
  have m2 := mapIs_made w1
  have m1 := m1.of_block (w' := w1.alloc (.map #[] 0)) ((heap_alloc w1 _).2 _ m1.lt)
  rw [e2] at m1 m2 ⊢
  have z2 : w2.heap.size = w.heap.size + 2 := by rw [← e2]; simp [z1]
  obtain ⟨w3, e3⟩ : ∃ w3, w2.alloc (.map #[] 0) = w3 := ⟨_, rfl⟩
  have m3 := mapIs_made w2
  have m2 := m2.of_block (w' := w2.alloc (.map #[] 0)) ((heap_alloc w2 _).2 _ m2.lt)
  have m1 := m1.of_block (w' := w2.alloc (.map #[] 0)) ((heap_alloc w2 _).2 _ m1.lt)
  rw [e3] at m1 m2 m3 ⊢
  have z3 : w3.heap.size = w.heap.size + 3 := by rw [← e3]; simp [z2]
  have b3 : Below w.heap.size w w3 := by
    rw [← e3, ← e2, ← e1]
    exact (((Below.refl _ _).alloc (Nat.le_refl _) _).alloc (by simp) _).alloc (by simp; omega) _
  rw [z2] at m3
  rw [z1] at m2
  refine ⟨by simp, ⟨fun _ => false, fun _ => none, ⟨w.heap.size, w.heap.size + 1, w.heap.size + 2, fun _ => none, fun _ => none, ?_⟩, ?_⟩, b3.alloc (by omega) _⟩
  · refine ⟨?_, m1.of_block ((heap_alloc w3 _).2 _ m1.lt), m2.of_block ((heap_alloc w3 _).2 _ m2.lt), m3.of_block ((heap_alloc w3 _).2 _ m3.lt), by omega, by omega, by omega, by omega, by omega, by omega, ?_, ?_, ?_, ?_⟩
    · rw [← z3]
      rw [(heap_alloc w3 _).1]
    · intro j hj _
      exact ⟨rfl, .inl ⟨rfl, fun i hi => by simp [hof]⟩⟩
    · intro j _ h; cases h
    · intro _ _ _ _ _ h; cases h
    · intro _ _; exact ⟨rfl, rfl⟩
  · intro i hi
    exact ⟨by simp, .inl ⟨rfl, rfl⟩⟩

/-- 'x.set(id, keys)'. -/
theorem set_any {w : World} {B X : Nat} {fh : ByteArray → Option Value} {M : Nat → Bool} {L : Nat → List Nat} {i : Nat} {l : List Nat} (h : Idx w B X (hof L) M fh) (hH : HeldAt w fh L) (hBw : B ≤ w.heap.size) (hi : i < 4)
    (hb0 : ∀ a, a < 4 → (L a).length ≤ 1048576)
    (g c : Nat) (cur : Array Value) (hg : w.heap[g]? = some (.cells cur 9 (0, 0))) (hcur : cur.toList.take l.length = l.map (fun j => Value.string (kS j))) (hl4 : ∀ j ∈ l, j < 4) (hb : l.length ≤ 1048576) :
    Calls Yba.prog 6 #[.pointer (some ⟨X, 0, none⟩), .string (iS i), .slice (some ⟨g, 0, none⟩) l.length c] w fun e w' => e = .returned (.tuple #[]) ∧ (∃ M' fh', Idx w' B X (hof (setL L i l)) M' fh' ∧ HeldAt w' fh' (setL L i l)) ∧ Keep B w w' := by
  obtain ⟨bh, bo, bm, fo, fm, h⟩ := h
  obtain ⟨h1, h2⟩ := hH i hi
  rcases h2 with ⟨h2, h3⟩ | ⟨v, h2, g0, c0, cur0, rfl, h4, h5⟩
  · exact set_walk h hH hBw hi none 0 0 #[] (by rw [h2, h3]; rfl) (fun t ht => by rw [h3] at ht; simp at ht) (hb0 i hi) h1 g c cur hg hcur hl4 hb
  · exact set_walk h hH hBw hi (some ⟨g0, 0, none⟩) g0 c0 cur0 (by rw [h2]; rfl) (fun t ht => ⟨rfl, h4, h5⟩) (hb0 i hi) h1 g c cur hg hcur hl4 hb

/-- 'x.appendIDs(ids, key)'. -/
theorem ids_any {w : World} {B X : Nat} {fh : ByteArray → Option Value} {H : Nat → Nat → Bool} {M : Nat → Bool} (h : Idx w B X H M fh) (s : ByteArray)
    (n₁ k : Nat) (a0 : Option Addr) (c0 : Nat) (xs : List Value) (hrow : w.ownsRow n₁ 9 1 (.slice a0 k c0) k xs) (hn₁ : n₁ ≤ w.heap.size) (hk : k ≤ 65536) :
    Calls Yba.prog 9 #[.pointer (some ⟨X, 0, none⟩), .slice a0 k c0, .string s] w fun e W' => ∃ v' ts, e = .returned v' ∧ Holders H s ts ∧ W'.ownsRow n₁ 9 1 v' (k + ts.length) (xs ++ ts.map (fun i => Value.string (iS i))) ∧ Below n₁ w W' := by
  obtain ⟨bh, bo, bm, fo, fm, h⟩ := h
  have nil : fo s = none → fm s = none → Holders H s [] → Calls Yba.prog 9 #[.pointer (some ⟨X, 0, none⟩), .slice a0 k c0, .string s] w fun e W' => ∃ v' ts, e = .returned v' ∧ Holders H s ts ∧ W'.ownsRow n₁ 9 1 v' (k + ts.length) (xs ++ ts.map (fun i => Value.string (iS i))) ∧ Below n₁ w W' := by
    intro h1 h2 h3
    refine (ids_seq h s h1 none (by rw [h2]; rfl) n₁ k 0 a0 c0 xs hrow hn₁ hk (by omega) (fun ss => ss = []) ?_).mono ?_
    · intro W hW
      exact keys18_stops_nil Fence.wide (6 - 1) trivial rfl w.heap.size W (Nat.lt_of_lt_of_le (by simp) hW.size) ((hW.cell (p := ⟨w.heap.size, 0, none⟩) (by simp)).trans (by simp))
    · rintro e w' ⟨v', ss, rfl, rfl, hr, hb⟩
      exact ⟨v', [], rfl, h3, by simpa using hr, hb⟩
  by_cases hs : ∃ j, j < 4 ∧ s = kS j
  · obtain ⟨j, hj, rfl⟩ := hs
    cases hM : M j with
    | false =>
      obtain ⟨h1, h2⟩ := h.key.one j hj hM
      rcases h2 with ⟨h2, h3⟩ | ⟨i, hi, h2, h3⟩
      · refine nil h2 h1 ⟨by simp, fun i => ?_⟩
        simp only [List.not_mem_nil, false_iff]
        rintro ⟨hi, j', hj', e, hH⟩
        obtain rfl := kS_inj hj hj' e
        rw [h3 i hi] at hH; cases hH
      · refine (ids_one h (kS j) h2 n₁ k a0 c0 xs hrow hn₁ hk).mono ?_
        rintro e w' ⟨v', rfl, hr, hb⟩
        refine ⟨v', [i], rfl, ⟨by simp, fun a => ?_⟩, by simpa using hr, hb⟩
        simp only [List.mem_singleton]
        constructor
        · rintro rfl; exact ⟨hi, j, hj, rfl, by rw [h3 a hi]; simp⟩
        · rintro ⟨ha, j', hj', e, hH⟩
          obtain rfl := kS_inj hj hj' e
          rw [h3 a ha] at hH; simpa using hH
    | true =>
      obtain ⟨h1, sb, g, h2, h3, h4, h5, h6, h7, h8, h9, h10⟩ := h.key.many j hj hM
      obtain ⟨N, hN, hseq⟩ := keys_seq (w := w.alloc (.cells #[.map (some sb)] 49)) (Bm := w.heap.size) hj (h3.of_block ((heap_alloc w _).2 _ h3.lt)) h9 h10 (by simp) (by simp)
      refine (ids_seq h (kS j) h1 (some sb) (by rw [h2]; rfl) n₁ k N a0 c0 xs hrow hn₁ hk hN _ (fun W hW => hseq W (by simpa using hW))).mono ?_
      rintro e w' ⟨v', ss, rfl, ⟨ts, ht, he, hl⟩, hr, hb⟩
      exact ⟨v', ts, rfl, ht, by rw [hl, ← he]; exact hr, hb⟩
  · have hno : ∀ j, j < 4 → s ≠ kS j := fun j hj e => hs ⟨j, hj, e⟩
    obtain ⟨h1, h2⟩ := h.key.far s hno
    refine nil h1 h2 ⟨by simp, fun i => ?_⟩
    simp only [List.not_mem_nil, false_iff]
    rintro ⟨_, j, hj, e, _⟩
    exact hno j hj e

/-! ### slices of strings, as they lie -/
/-- The slice at a, of n elements, holds xs. -/
def SliceIs (w : World) (a : Option Addr) (n : Nat) (xs : List ByteArray) : Prop := xs.length = n ∧ (0 < n → ∃ b off, a = some ⟨b, off, none⟩ ∧ ∀ j, j < n → w.cell? ⟨b, off + j, none⟩ = some (.string (xs.getD j ByteArray.empty)))

theorem equal_any (a1 a2 : Option Addr) (n c m d : Nat) (xs ys : List ByteArray) (w : World) (hx : SliceIs w a1 n xs) (hy : SliceIs w a2 m ys) (hn : n ≤ 1000000000) (hm : m ≤ 1000000000) :
    Calls Yba.prog 10 #[.slice a1 n c, .slice a2 m d] w fun e w' => e = .returned (.bool (decide (xs = ys))) ∧ ∃ q, w' = w.drewN q := by
  obtain ⟨lx, hx⟩ := hx
  obtain ⟨ly, hy⟩ := hy
  by_cases hnm : n = m
  · by_cases hn0 : n = 0
    · subst hnm; subst hn0
      refine (Yba.slices_Equal_string_empty a1 a2 c 0 d w (by omega)).mono ?_
      rintro e w' ⟨rfl, rfl⟩
      have e1 := List.length_eq_zero_iff.1 lx
      have e2 := List.length_eq_zero_iff.1 ly
      subst e1; subst e2
      exact ⟨by simp, 0, rfl⟩
    · obtain ⟨b1, o1, rfl, c1⟩ := hx (by omega)
      obtain ⟨b2, o2, rfl, c2⟩ := hy (by omega)
      refine (Yba.slices_Equal_string b1 o1 n c b2 o2 m d xs ys w (by omega) (by omega) (by omega) (by omega) (fun j hj => c1 j (by omega)) (fun j hj => c2 j (by omega))).mono ?_
      rintro e w' ⟨rfl, hq⟩
      rw [List.take_of_length_le (by omega), List.take_of_length_le (by omega)]
      exact ⟨rfl, hq⟩
  · refine (Yba.slices_Equal_string_lens a1 a2 n c m d w hnm).mono ?_
    rintro e w' ⟨rfl, rfl⟩
    refine ⟨?_, 0, rfl⟩
    have : xs ≠ ys := by rintro rfl; omega
    simp [this]

theorem clone_any (a : Option Addr) (n c : Nat) (xs : List ByteArray) (w : World) (hx : SliceIs w a n xs) (hn : n ≤ 1000000000) :
    Calls Yba.prog 8 #[.slice a n c] w fun e w' => ∃ v', e = .returned v' ∧ w'.ownsRow w.heap.size 9 1 v' n (xs.map Value.string) ∧ Below w.heap.size w w' := by
  obtain ⟨lx, hx⟩ := hx
  by_cases hn0 : n = 0
  · have e1 := List.length_eq_zero_iff.1 (lx.trans hn0)
    subst hn0; subst e1
    cases a with
    | none =>
      refine (Yba.slices_Clone_string_nil 0 c w).mono ?_
      rintro e w' ⟨rfl, rfl⟩
      exact ⟨_, rfl, World.ownsRow_nil _ _ _ _, Below.refl _ _⟩
    | some a =>
      refine (Yba.slices_Clone_string_zero a c w).mono ?_
      rintro e w' ⟨v', rfl, hr, _, hb⟩
      exact ⟨v', rfl, hr, hb⟩
  · obtain ⟨b1, o1, rfl, c1⟩ := hx (by omega)
    refine (Yba.slices_Clone_string b1 o1 n c xs w (by omega) (by omega) (fun j hj => c1 j (by omega))).mono ?_
    rintro e w' ⟨v', rfl, hr, _, hb⟩
    rw [List.take_of_length_le (by omega)] at hr
    exact ⟨v', rfl, hr, hb⟩

/-- A slice that owns strings, as it lies. -/
theorem owns_slice {w : World} {base n : Nat} {v : Value} {xs : List ByteArray} (h : w.ownsRow base 9 1 v n (xs.map Value.string)) : ∃ a c, v = .slice a n c ∧ SliceIs w a n xs ∧ n ≤ c := by
  obtain ⟨h1, h2⟩ := h
  have hl : xs.length = n := by simpa using h1
  rcases h2 with ⟨rfl, h⟩ | ⟨g, cap, cur, rfl, hg, hh, r1, r2, r3, r4⟩
  · subst h; exact ⟨none, 0, rfl, ⟨hl, fun h => by omega⟩, by omega⟩
  · refine ⟨_, _, rfl, ⟨hl, fun _ => ⟨g, 0, rfl, fun j hj => ?_⟩⟩, r1⟩
    have e := congrArg (fun x => x[j]?) r4
    simp only [Nat.mul_one, List.getElem?_take, hj, if_true, List.getElem?_map] at e
    simp only [World.cell?, hh, Nat.zero_add]
    have e2 : cur[j]? = some (.string (xs.getD j ByteArray.empty)) := by
      rw [← Array.getElem?_toList, e]
      simp [hl, hj]
    simp [e2]

theorem sort_any (base n : Nat) (v : Value) (xs : List (List UInt8)) (w : World) (h : w.ownsRow base 9 1 v n (xs.map encStr)) (hn : n ≤ 1000000000) (hb : base ≤ w.heap.size) :
    Calls Yba.prog 11 #[v] w fun e w' => e = .returned (.tuple #[]) ∧ w'.ownsRow base 9 1 v n ((xs.mergeSort fun x y => decide (x ≤ y)).map encStr) ∧ Below base w w' := by
  obtain ⟨h1, h2⟩ := h
  have hl : xs.length = n := by simpa using h1
  rcases h2 with ⟨rfl, h⟩ | ⟨g, cap, cur, rfl, hg, hh, r1, r2, r3, r4⟩
  · subst h
    have e1 := List.length_eq_zero_iff.1 hl
    subst e1
    refine (Yba.slices_Sort_string_none none 0 w).mono ?_
    rintro e w' ⟨rfl, rfl⟩
    exact ⟨rfl, by simpa using World.ownsRow_nil _ _ _ _, Below.refl _ _⟩
  · subst hl
    refine (Yba.slices_Sort_string g 0 cap xs w (holds_of_block hh (by simpa using r4)) (Array.getElem?_eq_some_iff.1 hh).1 (by omega)).mono ?_
    rintro e w' ⟨rfl, nn, os, rfl⟩
    exact ⟨rfl, ownsRow_sorted (by simp) hg hh r1 r2 r3, (Below.refl _ _).grown (grownBy_sorted _) hb (fun k e => by cases e; exact hg)⟩
end Go.Proofs.Ybulkeals
