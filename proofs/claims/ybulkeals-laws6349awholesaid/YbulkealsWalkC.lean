import Derived.Test.YbulkealsWalkB
import Derived.RegionTactic
import Derived.Maps.RangeWalk
namespace Go.Proofs.Ybulkeals
open Go.RowKit Go.MapKept
set_option linter.unusedSimpArgs false

theorem push_set (W : World) (o o' : Obj) : ({ (W.alloc o).drew with heap := (W.alloc o).drew.heap.setIfInBounds W.heap.size o' } : World) = (W.alloc o').drew := by
  have e : (W.heap.push o).setIfInBounds W.heap.size o' = W.heap.push o' := by
    apply Array.ext_getElem?
    intro k
    rw [Array.getElem?_setIfInBounds, Array.getElem?_push, Array.getElem?_push]
    simp only [Array.size_push]
    by_cases h : W.heap.size = k
    · subst h; simp
    · rw [if_neg h]
      by_cases h' : k = W.heap.size
      · omega
      · simp [h']
  show ({ (W.alloc o).drew with heap := (W.heap.push o).setIfInBounds W.heap.size o' } : World) = _
  rw [e]
  rfl

theorem ins1 (W : World) (s : ByteArray) : (Instr.mapUpdate 49 (.map (some W.heap.size)) (.string s) (.agg #[])).run Yba.prog (W.alloc (.map #[] 0)).drew = .ok () (W.alloc (.map #[{ key := .string s, val := .agg #[], born := 0 }] 1)).drew := by
  have hb : (W.alloc (.map #[] 0)).drew.heap[W.heap.size]? = some (.map #[] 0) := (heap_alloc W _).1
  have h1 : Instr.findNow .string (.string s) (#[] : Array MapEntry).toList 0 = some none := rfl
  have hkey : IsKey .string (.string s) := trivial
  refine Eq.trans ?_ (congrArg (Result.ok ()) (push_set W (.map #[] 0) _))
  simp [Instr.mapUpdate, run_underlying Yba.underlying49, MapKept.run_getObj_map hb, run_checkKey Yba.underlying9 hkey, run_findKey Yba.underlying9 h1, run_setObj_map _ hb, Result.andThen]

theorem ins2 (W : World) (s s' : ByteArray) (h : s ≠ s') : (Instr.mapUpdate 49 (.map (some W.heap.size)) (.string s') (.agg #[])).run Yba.prog (W.alloc (.map #[{ key := .string s, val := .agg #[], born := 0 }] 1)).drew
    = .ok () (W.alloc (.map #[{ key := .string s, val := .agg #[], born := 0 }, { key := .string s', val := .agg #[], born := 1 }] 2)).drew := by
  have hb : (W.alloc (.map #[{ key := .string s, val := .agg #[], born := 0 }] 1)).drew.heap[W.heap.size]? = some (.map #[{ key := .string s, val := .agg #[], born := 0 }] 1) := (heap_alloc W _).1
  have hne : (s' == s) = false := by
    cases hq : (s' == s) with
    | false => rfl
    | true => exact absurd ((bytes_beq _ _).1 hq).symm h
  have h1 : Instr.findNow .string (.string s') (#[{ key := .string s, val := .agg #[], born := 0 }] : Array MapEntry).toList 0 = some none := by simp [Instr.findNow, Instr.sameNow, hne]
  have hkey : IsKey .string (.string s') := trivial
  refine Eq.trans ?_ (congrArg (Result.ok ()) (push_set W (.map #[{ key := .string s, val := .agg #[], born := 0 }] 1) _))
  simp [Instr.mapUpdate, run_underlying Yba.underlying49, MapKept.run_getObj_map hb, run_checkKey Yba.underlying9 hkey, run_findKey Yba.underlying9 h1, run_setObj_map _ hb, Result.andThen]

def two (s s' : ByteArray) : ByteArray → Option Value := fun u => if u = s ∨ u = s' then some (.agg #[]) else none

theorem two_is (W : World) (s s' : ByteArray) (h : s ≠ s') : MapIs (W.alloc (.map #[{ key := .string s, val := .agg #[], born := 0 }, { key := .string s', val := .agg #[], born := 1 }] 2)).drew W.heap.size (two s s') := by
  refine ⟨_, _, (heap_alloc W _).1, ⟨?_, ?_, ?_⟩, ?_, ?_⟩
  · simp
  · simp
  · simp [h]
  · simp [IsKey]
  · intro u v
    simp [two]
    constructor
    · rintro ⟨rfl | rfl, h2⟩
      · exact .inl ⟨rfl, h2⟩
      · exact .inr ⟨rfl, h2⟩
    · rintro (⟨h1, h2⟩ | ⟨h1, h2⟩)
      · exact ⟨.inl h1.symm, h2⟩
      · exact ⟨.inr h1.symm, h2⟩

theorem two_comm (s s' u : ByteArray) : two s s' u = if u = s' ∨ u = s then some (.agg #[]) else none := by simp only [two, Or.comm]

set_option maxHeartbeats 1000000 in
theorem add_second {w : World} {B X bh bo bm : Nat} {fo fm fh : ByteArray → Option Value} {H : Nat → Nat → Bool} {M : Nat → Bool} {i j i0 : Nat} (h : IdxAt w B X bh bo bm fo fm H M fh) (hBw : B ≤ w.heap.size) (hi : i < 4) (hj : j < 4) (hM : M j = false)
    (hi0 : i0 < 4) (hne : i0 ≠ i) (hf : fo (kS j) = some (.string (iS i0))) :
    Calls Yba.prog 13 #[.pointer (some ⟨X, 0, none⟩), .string (kS j), .string (iS i)] w fun e w' => e = .returned (.tuple #[]) ∧ Idx w' B X (put H i j) (fun a => if a = j then true else M a) fh ∧ Keep B w w' := by
  obtain ⟨hc0, hc1, hc2⟩ := cells3 h.cell
  have hfm := (h.key.one j hj hM).1
  have Hh : Hid (IdxAt w B X bh bo bm fo fm H M fh) := h
  have mm := h.mm
  have mo := h.mo
  have hX := h.mo.ne_cells h.cell
  have hom := h.om
  have hid : iS i0 ≠ iS i := iS_ne hi hi0 hne
  have hidb : ((iS i0).toList == (iS i).toList) = false := by
    rcases lt4 hi with rfl | rfl | rfl | rfl <;> rcases lt4 hi0 with rfl | rfl | rfl | rfl <;> first | exact absurd rfl hne | kernel_rfl
  clear h
  have hmm := @run_makeMap Yba.prog
  have i1 := ins1
  have i2 := fun W => ins2 W (iS i0) (iS i) hid
  have i3 := fun W => ins2 W (iS i) (iS i0) (Ne.symm hid)
  have Hhf : Hid (fo (kS j) = some (.string (iS i0))) := hf
  go_enter Yba.func13, Yba.ntmps13
  go_wp2_with (first
    | (at_lookup; refine wpList_lookup_m _ rfl _ _ 40 true rfl 9 49 Yba.underlying40 Yba.underlying9 (zero49 _) bm fm rfl mm (kS j) rfl (.tuple #[.map none, .bool false]) (by rw [hfm]; rfl) ?_)
    | (at_lookup; refine wpList_lookup_m _ rfl _ _ 39 true rfl 9 9 Yba.underlying39 Yba.underlying9 (zero9 _) bo fo rfl mo (kS j) rfl (.tuple #[.string (iS i0), .bool true]) (by rw [hf]; rfl) ?_)
    | (at_delete; refine wpList_delete_m _ rfl _ _ 39 9 rfl 9 Yba.underlying39 Yba.underlying9 bo fo rfl mo (kS j) rfl ?_; intro w1 hm1 ht1; obtain ⟨hd0, hd1, hd2⟩ := cells3 ((ht1.block X hX).trans Hh.out.cell)))
  have mm1 := mm.of_block (w' := w1) (ht1.block _ (Ne.symm hom))
  have mmA := mm1.of_block (w' := (w1.alloc (.map #[{ key := .string (iS i0), val := .agg #[], born := 0 }, { key := .string (iS i), val := .agg #[], born := 1 }] 2)).drew) ((heap_alloc w1 _).2 _ mm1.lt)
  have mmB := mm1.of_block (w' := (w1.alloc (.map #[{ key := .string (iS i), val := .agg #[], born := 0 }, { key := .string (iS i0), val := .agg #[], born := 1 }] 2)).drew) ((heap_alloc w1 _).2 _ mm1.lt)
  obtain ⟨wA, runA, isA, tA⟩ := mmA.store Yba.underlying40 Yba.underlying9 (kS j) (.map (some w1.heap.size))
  obtain ⟨wB, runB, isB, tB⟩ := mmB.store Yba.underlying40 Yba.underlying9 (kS j) (.map (some w1.heap.size))
  have hXl : X < w1.heap.size := by rw [ht1.size]; exact (Array.getElem?_eq_some_iff.1 Hh.out.cell).1
  have hx2 : ∀ o, (w1.alloc o).cell? ⟨X, 2, none⟩ = some (.map (some bm)) := fun o => by rw [World.cell?_alloc_past _ _ _ hXl]; exact hd2
  have T1 : Hid (MapIs w1 bo (upd fo (kS j) none) ∧ Turn bo w w1 ∧ MapIs w1 bm fm) := ⟨hm1, ht1, mm1⟩
  have TA : Hid (MapIs wA bm (upd fm (kS j) (some (.map (some w1.heap.size)))) ∧ Turn bm (w1.alloc (.map #[{ key := .string (iS i0), val := .agg #[], born := 0 }, { key := .string (iS i), val := .agg #[], born := 1 }] 2)).drew wA) := ⟨isA, tA⟩
  have TB : Hid (MapIs wB bm (upd fm (kS j) (some (.map (some w1.heap.size)))) ∧ Turn bm (w1.alloc (.map #[{ key := .string (iS i), val := .agg #[], born := 0 }, { key := .string (iS i0), val := .agg #[], born := 1 }] 2)).drew wB) := ⟨isB, tB⟩
  clear mmA mmB mm1 hm1 ht1 isA tA isB tB
  go_frame
  go_region
  all_goals
    go_wp2
    go_end0
    obtain ⟨hm1, ht1, mm1⟩ := T1.out
    have z1 := ht1.size
    refine ⟨rfl, ⟨bh, bo, bm, upd fo (kS j) none, upd fm (kS j) (some (.map (some w1.heap.size))), ?_⟩, ?_⟩
    · first
        | exact idx_to_many (w2 := (w1.alloc (.map #[{ key := .string (iS i0), val := .agg #[], born := 0 }, { key := .string (iS i), val := .agg #[], born := 1 }] 2)).drew) Hh.out hi hj hM hi0 hne Hhf.out hm1 ht1 (Nat.le_refl _) hBw (fun k hk => (heap_alloc w1 _).2 k hk) (two_is w1 _ _ hid) (fun u => rfl) TA.out.1 TA.out.2
        | exact idx_to_many (w2 := (w1.alloc (.map #[{ key := .string (iS i), val := .agg #[], born := 0 }, { key := .string (iS i0), val := .agg #[], born := 1 }] 2)).drew) Hh.out hi hj hM hi0 hne Hhf.out hm1 ht1 (Nat.le_refl _) hBw (fun k hk => (heap_alloc w1 _).2 k hk) (two_is w1 _ _ (Ne.symm hid)) (fun u => two_comm _ _ u) TB.out.1 TB.out.2
    · have k1 : Keep B w w1 := Keep.turn mo Hh.out.lo ht1
      first
        | exact ((k1.alloc _).drew).trans (Keep.turn (mm1.of_block (w' := (w1.alloc (.map #[{ key := .string (iS i0), val := .agg #[], born := 0 }, { key := .string (iS i), val := .agg #[], born := 1 }] 2)).drew) ((heap_alloc w1 _).2 _ mm1.lt)) Hh.out.lm TA.out.2)
        | exact ((k1.alloc _).drew).trans (Keep.turn (mm1.of_block (w' := (w1.alloc (.map #[{ key := .string (iS i), val := .agg #[], born := 0 }, { key := .string (iS i0), val := .agg #[], born := 1 }] 2)).drew) ((heap_alloc w1 _).2 _ mm1.lt)) Hh.out.lm TB.out.2)

/-- 'x.add(key, id)'. -/
theorem add_any {w : World} {B X : Nat} {fh : ByteArray → Option Value} {H : Nat → Nat → Bool} {M : Nat → Bool} {i j : Nat} (h : Idx w B X H M fh) (hBw : B ≤ w.heap.size) (hi : i < 4) (hj : j < 4) :
    Calls Yba.prog 13 #[.pointer (some ⟨X, 0, none⟩), .string (kS j), .string (iS i)] w fun e w' => e = .returned (.tuple #[]) ∧ (∃ M', Idx w' B X (put H i j) M' fh) ∧ Keep B w w' := by
  obtain ⟨bh, bo, bm, fo, fm, h⟩ := h
  cases hM : M j with
  | true => exact (add_many h hi hj hM).mono fun e w' ⟨he, hx, hk⟩ => ⟨he, ⟨M, hx⟩, hk⟩
  | false =>
    rcases (h.key.one j hj hM).2 with ⟨hn, _⟩ | ⟨i0, hi0, hf, hH⟩
    · exact (add_first h hi hj hM hn).mono fun e w' ⟨he, hx, hk⟩ => ⟨he, ⟨M, hx⟩, hk⟩
    · by_cases e : i0 = i
      · subst e
        exact (add_again h hj hM hf (by rw [hH i0 hi0]; simp)).mono fun e w' ⟨he, hx, hk⟩ => ⟨he, ⟨M, hx⟩, hk⟩
      · exact (add_second h hBw hi hj hM hi0 e hf).mono fun e w' ⟨he, hx, hk⟩ => ⟨he, ⟨_, hx⟩, hk⟩
end Go.Proofs.Ybulkeals
