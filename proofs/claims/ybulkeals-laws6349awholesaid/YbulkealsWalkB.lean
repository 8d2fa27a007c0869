import Derived.Test.YbulkealsWalkA
namespace Go.Proofs.Ybulkeals
open Go.RowKit Go.MapKept
set_option linter.unusedSimpArgs false

set_option maxHeartbeats 1000000 in
theorem add_many {w : World} {B X bh bo bm : Nat} {fo fm fh : ByteArray → Option Value} {H : Nat → Nat → Bool} {M : Nat → Bool} {i j : Nat} (h : IdxAt w B X bh bo bm fo fm H M fh) (hi : i < 4) (hj : j < 4) (hM : M j = true) :
    Calls Yba.prog 13 #[.pointer (some ⟨X, 0, none⟩), .string (kS j), .string (iS i)] w fun e w' => e = .returned (.tuple #[]) ∧ Idx w' B X (put H i j) M fh ∧ Keep B w w' := by
  obtain ⟨hc0, hc1, hc2⟩ := cells3 h.cell
  obtain ⟨_, s, g, hfm, hg, hBs, hsh, hso, hsm, _, hg1, hg2⟩ := h.key.many j hj hM
  have Hh : Hid (IdxAt w B X bh bo bm fo fm H M fh) := h
  have Hg : Hid (fm (kS j) = some (.map (some s)) ∧ (∀ i, i < 4 → g (iS i) = if H i j then some (.agg #[]) else none) ∧ (∀ u, (∀ i, i < 4 → u ≠ iS i) → g u = none)) := ⟨hfm, hg1, hg2⟩
  have mm := h.mm
  clear h hg1 hg2
  go_enter Yba.func13, Yba.ntmps13
  go_wp2_with (first
    | (at_lookup; refine wpList_lookup_m _ rfl _ _ 40 true rfl 9 49 Yba.underlying40 Yba.underlying9 (zero49 _) bm fm rfl mm (kS j) rfl (.tuple #[.map (some s), .bool true]) (by rw [hfm]; rfl) ?_)
    | (at_mapUpdate; refine wpList_update_m _ rfl _ _ _ 49 rfl 9 50 Yba.underlying49 Yba.underlying9 s g rfl hg (iS i) (.agg #[]) rfl rfl ?_; intro w1 hm1 ht1))
  refine bodyPost_ret (results_none rfl _ _ _) rfl ?_
  obtain ⟨e1, e2, e3⟩ := Hg.out
  exact ⟨rfl, ⟨bh, bo, bm, fo, fm, idx_set_put Hh.out hi hj hM e1 hg e2 e3 hm1 ht1⟩, Keep.turn hg hBs ht1⟩

set_option maxHeartbeats 1000000 in
theorem add_first {w : World} {B X bh bo bm : Nat} {fo fm fh : ByteArray → Option Value} {H : Nat → Nat → Bool} {M : Nat → Bool} {i j : Nat} (h : IdxAt w B X bh bo bm fo fm H M fh) (hi : i < 4) (hj : j < 4) (hM : M j = false) (hn : fo (kS j) = none) :
    Calls Yba.prog 13 #[.pointer (some ⟨X, 0, none⟩), .string (kS j), .string (iS i)] w fun e w' => e = .returned (.tuple #[]) ∧ Idx w' B X (put H i j) M fh ∧ Keep B w w' := by
  obtain ⟨hc0, hc1, hc2⟩ := cells3 h.cell
  have hfm := (h.key.one j hj hM).1
  have Hh : Hid (IdxAt w B X bh bo bm fo fm H M fh) := h
  have mm := h.mm
  have mo := h.mo
  clear h
  go_enter Yba.func13, Yba.ntmps13
  go_wp2_with (first
    | (at_lookup; refine wpList_lookup_m _ rfl _ _ 40 true rfl 9 49 Yba.underlying40 Yba.underlying9 (zero49 _) bm fm rfl mm (kS j) rfl (.tuple #[.map none, .bool false]) (by rw [hfm]; rfl) ?_)
    | (at_lookup; refine wpList_lookup_m _ rfl _ _ 39 true rfl 9 9 Yba.underlying39 Yba.underlying9 (zero9 _) bo fo rfl mo (kS j) rfl (.tuple #[.string ⟨#[]⟩, .bool false]) (by rw [hn]; rfl) ?_)
    | (at_mapUpdate; refine wpList_update_m _ rfl _ _ _ 39 rfl 9 9 Yba.underlying39 Yba.underlying9 bo fo rfl mo (kS j) (.string (iS i)) rfl rfl ?_; intro w1 hm1 ht1))
  go_end0
  exact ⟨rfl, ⟨bh, bo, bm, _, fm, idx_one_put Hh.out hi hj hM hn hm1 ht1⟩, Keep.turn mo Hh.out.lo ht1⟩

set_option maxHeartbeats 1000000 in
theorem add_again {w : World} {B X bh bo bm : Nat} {fo fm fh : ByteArray → Option Value} {H : Nat → Nat → Bool} {M : Nat → Bool} {i j : Nat} (h : IdxAt w B X bh bo bm fo fm H M fh) (hj : j < 4) (hM : M j = false) (hn : fo (kS j) = some (.string (iS i))) (hH : H i j = true) :
    Calls Yba.prog 13 #[.pointer (some ⟨X, 0, none⟩), .string (kS j), .string (iS i)] w fun e w' => e = .returned (.tuple #[]) ∧ Idx w' B X (put H i j) M fh ∧ Keep B w w' := by
  obtain ⟨hc0, hc1, hc2⟩ := cells3 h.cell
  have hfm := (h.key.one j hj hM).1
  have Hh : Hid (IdxAt w B X bh bo bm fo fm H M fh) := h
  have mm := h.mm
  have mo := h.mo
  clear h
  go_enter Yba.func13, Yba.ntmps13
  go_wp2_with (first
    | (at_lookup; refine wpList_lookup_m _ rfl _ _ 40 true rfl 9 49 Yba.underlying40 Yba.underlying9 (zero49 _) bm fm rfl mm (kS j) rfl (.tuple #[.map none, .bool false]) (by rw [hfm]; rfl) ?_)
    | (at_lookup; refine wpList_lookup_m _ rfl _ _ 39 true rfl 9 9 Yba.underlying39 Yba.underlying9 (zero9 _) bo fo rfl mo (kS j) rfl (.tuple #[.string (iS i), .bool true]) (by rw [hn]; rfl) ?_))
  go_end0
  exact ⟨rfl, ⟨bh, bo, bm, _, fm, idx_stay Hh.out hH⟩, Keep.refl _ _⟩
end Go.Proofs.Ybulkeals
