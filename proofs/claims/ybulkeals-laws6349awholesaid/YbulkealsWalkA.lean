import Derived.Test.YbulkealsIdx
namespace Go.Proofs.Ybulkeals
open Go.RowKit Go.MapKept
set_option linter.unusedSimpArgs false

theorem cells3 {w : World} {X : Nat} {a b c : Value} (h : w.heap[X]? = some (.cells #[a, b, c] 42 (0, 0))) :
    w.cell? ⟨X, 0, none⟩ = some a ∧ w.cell? ⟨X, 1, none⟩ = some b ∧ w.cell? ⟨X, 2, none⟩ = some c := by
  refine ⟨?_, ?_, ?_⟩ <;> simp [World.cell?, h]

theorem zero49 (w : World) : (zeroValue 49).run Yba.prog w = .ok (.map none) w := by kernel_rfl
theorem zero9 (w : World) : (zeroValue 9).run Yba.prog w = .ok (.string ⟨#[]⟩) w := by kernel_rfl
theorem zero23 (w : World) : (zeroValue 23).run Yba.prog w = .ok (.slice none 0 0) w := by kernel_rfl

set_option maxHeartbeats 1000000 in
theorem remove_one {w : World} {B X bh bo bm : Nat} {fo fm fh : ByteArray → Option Value} {H : Nat → Nat → Bool} {M : Nat → Bool} {i j : Nat} (h : IdxAt w B X bh bo bm fo fm H M fh) (hi : i < 4) (hj : j < 4) (hM : M j = false)
    (hp : H i j = true ∨ ∀ i', i' < 4 → H i' j = false) :
    Calls Yba.prog 12 #[.pointer (some ⟨X, 0, none⟩), .string (kS j), .string (iS i)] w fun e w' => e = .returned (.tuple #[]) ∧ Idx w' B X (clr H i j) M fh ∧ Keep B w w' := by
  obtain ⟨hc0, hc1, hc2⟩ := cells3 h.cell
  have hfm := (h.key.one j hj hM).1
  have Hh : Hid (IdxAt w B X bh bo bm fo fm H M fh) := h
  have mm := h.mm
  have mo := h.mo
  clear h
  go_enter Yba.func12, Yba.ntmps12
  go_wp2_with (first
    | (at_lookup; refine wpList_lookup_m _ rfl _ _ 40 true rfl 9 49 Yba.underlying40 Yba.underlying9 (zero49 _) bm fm rfl mm (kS j) rfl (.tuple #[.map none, .bool false]) (by rw [hfm]; rfl) ?_)
    | (at_delete; refine wpList_delete_m _ rfl _ _ 39 9 rfl 9 Yba.underlying39 Yba.underlying9 bo fo rfl mo (kS j) rfl ?_; intro w1 hm1 ht1))
  go_end0
  exact ⟨rfl, ⟨bh, bo, bm, _, fm, idx_one_del Hh.out hi hj hM hp hm1 ht1⟩, Keep.turn mo Hh.out.lo ht1⟩

theorem set_empty {g : ByteArray → Option Value} {H : Nat → Nat → Bool} {i j : Nat} (hi : i < 4) (hg1 : ∀ i, i < 4 → g (iS i) = if H i j then some (.agg #[]) else none) (hg2 : ∀ u, (∀ i, i < 4 → u ≠ iS i) → g u = none) :
    (∀ s, upd g (iS i) none s = none) ↔ ∀ i', i' < 4 → clr H i j i' j = false := by
  constructor
  · intro h i' hi'
    by_cases ei : i' = i
    · subst ei; exact clr_same
    · have := h (iS i')
      rw [upd_other _ _ (iS_ne hi hi' ei), hg1 i' hi'] at this
      rw [clr_row ei]
      cases hq : H i' j with
      | false => rfl
      | true => rw [hq] at this; simp at this
  · intro h s
    by_cases es : s = iS i
    · subst es; exact upd_same _ _ _
    · rw [upd_other _ _ es]
      by_cases hu : ∃ i', i' < 4 ∧ s = iS i'
      · obtain ⟨i', hi', rfl⟩ := hu
        have ei : i' ≠ i := by rintro rfl; exact es rfl
        have := h i' hi'
        rw [clr_row ei] at this
        rw [hg1 i' hi', this]; rfl
      · exact hg2 s fun a ha e => hu ⟨a, ha, e⟩

set_option maxHeartbeats 1000000 in
theorem remove_many {w : World} {B X bh bo bm : Nat} {fo fm fh : ByteArray → Option Value} {H : Nat → Nat → Bool} {M : Nat → Bool} {i j : Nat} (h : IdxAt w B X bh bo bm fo fm H M fh) (hi : i < 4) (hj : j < 4) (hM : M j = true) :
    Calls Yba.prog 12 #[.pointer (some ⟨X, 0, none⟩), .string (kS j), .string (iS i)] w fun e w' => e = .returned (.tuple #[]) ∧ (∃ M', Idx w' B X (clr H i j) M' fh ∧ (∀ j', j' ≠ j → M' j' = M j') ∧ (M' j = true ∨ ∀ i', i' < 4 → clr H i j i' j = false)) ∧ Keep B w w' := by
  obtain ⟨hc0, hc1, hc2⟩ := cells3 h.cell
  obtain ⟨_, s, g, hfm, hg, hBs, hsh, hso, hsm, _, hg1, hg2⟩ := h.key.many j hj hM
  have Hh : Hid (IdxAt w B X bh bo bm fo fm H M fh) := h
  have Hg : Hid (fm (kS j) = some (.map (some s)) ∧ (∀ i, i < 4 → g (iS i) = if H i j then some (.agg #[]) else none) ∧ (∀ u, (∀ i, i < 4 → u ≠ iS i) → g u = none)) := ⟨hfm, hg1, hg2⟩
  have mm := h.mm
  have hX := hg.ne_cells h.cell
  clear h hg1 hg2
  go_enter Yba.func12, Yba.ntmps12
  go_wp2_with (first
    | (at_lookup; refine wpList_lookup_m _ rfl _ _ 40 true rfl 9 49 Yba.underlying40 Yba.underlying9 (zero49 _) bm fm rfl mm (kS j) rfl (.tuple #[.map (some s), .bool true]) (by rw [hfm]; rfl) ?_)
    | (at_delete; refine wpList_delete_m _ rfl _ _ 49 9 rfl 50 Yba.underlying49 Yba.underlying9 s g rfl hg (iS i) rfl ?_; intro w1 hm1 ht1; obtain ⟨hd0, hd1, hd2⟩ := cells3 ((ht1.block X hX).trans Hh.out.cell); have mm1 := mm.of_block (ht1.block _ (Ne.symm hsm)))
    | (at_len; refine wpList_len_m _ rfl _ 49 rfl 9 50 Yba.underlying49 s _ rfl hm1 ?_; intro n hn)
    | (at_delete; refine wpList_delete_m _ rfl _ _ 40 9 rfl 49 Yba.underlying40 Yba.underlying9 bm fm rfl mm1 (kS j) rfl ?_; intro w2 hm2 ht2))
  · have hn0 : n = 0 := by have : ((n : Int) == 0) = true := by assumption
                           simpa using this
    obtain ⟨e1, e2, e3⟩ := Hg.out
    have hl := (set_empty hi e2 e3).1 (hn.1 hn0)
    refine bodyPost_ret (results_none rfl _ _ _) rfl ?_
    exact ⟨rfl, ⟨_, ⟨bh, bo, bm, fo, _, idx_many_del Hh.out hj hM e1 hg hm1 ht1 hm2 ht2 hl⟩, fun j' hj' => by simp [hj'], .inr hl⟩, (Keep.turn hg hBs ht1).trans (Keep.turn mm1 Hh.out.lm ht2)⟩
  · have hn0 : n ≠ 0 := by have : ((n : Int) == 0) = false := by assumption
                           simpa using this
    obtain ⟨e1, e2, e3⟩ := Hg.out
    have hl : ∃ i', i' < 4 ∧ clr H i j i' j = true := by
      refine Classical.byContradiction fun hno => hn0 (hn.2 ((set_empty hi e2 e3).2 fun i' hi' => ?_))
      cases hq : clr H i j i' j with
      | false => rfl
      | true => exact absurd ⟨i', hi', hq⟩ hno
    refine bodyPost_ret (results_none rfl _ _ _) rfl ?_
    exact ⟨rfl, ⟨M, ⟨bh, bo, bm, fo, fm, idx_set_del Hh.out hi hj hM e1 hg e2 e3 hm1 ht1 hl⟩, fun _ _ => rfl, .inl hM⟩, Keep.turn hg hBs ht1⟩

/-- 'x.remove(key, id)', the row id holding the key, or nobody holding it, or the key kept in 'many'. -/
theorem remove_any {w : World} {B X : Nat} {fh : ByteArray → Option Value} {H : Nat → Nat → Bool} {M : Nat → Bool} {i j : Nat} (h : Idx w B X H M fh) (hi : i < 4) (hj : j < 4)
    (hp : M j = true ∨ H i j = true ∨ ∀ i', i' < 4 → H i' j = false) :
    Calls Yba.prog 12 #[.pointer (some ⟨X, 0, none⟩), .string (kS j), .string (iS i)] w fun e w' => e = .returned (.tuple #[]) ∧ (∃ M', Idx w' B X (clr H i j) M' fh ∧ (∀ j', j' ≠ j → M' j' = M j') ∧ (M' j = true ∨ ∀ i', i' < 4 → clr H i j i' j = false)) ∧ Keep B w w' := by
  obtain ⟨bh, bo, bm, fo, fm, h⟩ := h
  cases hM : M j with
  | true => exact remove_many h hi hj hM
  | false =>
    have hp' : H i j = true ∨ ∀ i', i' < 4 → H i' j = false := by
      rcases hp with hp | hp
      · rw [hM] at hp; cases hp
      · exact hp
    refine (remove_one h hi hj hM hp').mono ?_
    rintro e w' ⟨he, hx, hk⟩
    refine ⟨he, ⟨M, hx, fun _ _ => rfl, .inr fun i' hi' => ?_⟩, hk⟩
    by_cases ei : i' = i
    · subst ei; exact clr_same
    · rw [clr_row ei]
      rcases hp' with hp' | hp'
      · rcases (h.key.one j hj hM).2 with ⟨_, q⟩ | ⟨i0, _, _, q⟩
        · exact q i' hi'
        · have : i = i0 := by have := q i hi; rw [hp'] at this; simpa using this.symm
          subst this
          rw [q i' hi']; simpa using ei
      · exact hp' i' hi'
end Go.Proofs.Ybulkeals
