/- maps.Keys over a set of ids (function 15), its iterator (18): after the kit's worked texts on a range over a function, turned to this program. -/
import Derived.Test.YbulkealsLaws
import Derived.RangeFuncNested
import Derived.RangeFuncBound
import Derived.RangeFuncCalls
import Derived.RangeFuncLeaves
import Derived.RangeFuncFrom
import Derived.RangeFuncBox
import Derived.Shelf.Abstract
import Derived.Shelf.RegionOpen
import Derived.OwnWalkIn
import Derived.TacticsInMore
import Derived.LoopNIn
import Derived.LoopIn
import Derived.Sort.MapsRangeIn
import Derived.Sort.KeysCollected
import Derived.Maps.AppendAt
namespace Go.Proofs.Ybulkeals
open Go.RowKit Go.MapKept Go.Maps Go.Sort Go.Shelf Go.WideMaps Go.WideElems
set_option linter.unusedSimpArgs false

/-- Any element: it is not looked at. -/
def anyElem : Value → Option (DataW Unit × List MemPlace) := fun _ => some (.nil, [])

/-- A map of at most four keys, each of one byte or so, as the kit's word has it. -/
theorem MapIs.owns {w : World} {b : Nat} {f : ByteArray → Option Value} (h : MapIs w b f) (hs : ∀ s v, f s = some v → s.size ≤ maxLen) (ks : List ByteArray) (hk : ∀ s v, f s = some v → s ∈ ks) (hl : ks.length ≤ 16) :
    ∃ n D, w.ownsMap Yba.prog 9 anyElem b n D ∧ Maps.size D ≤ 16 ∧ (∀ x : List UInt8, has D (.string x) = true ↔ ∃ v, f ⟨x.toArray⟩ = some v) := by
  obtain ⟨es, clock, hb, hst, hks, hf⟩ := h
  have hkey : ∀ x ∈ es.toList, ∃ s, x.key = .string s ∧ f s = some x.val := by
    intro x hx
    have := hks x hx
    cases hxk : x.key with
    | string s => exact ⟨s, rfl, (hf s x.val).2 ⟨x, hx, hxk, rfl⟩⟩
    | _ => rw [hxk] at this; exact this.elim
  have hsz : es.size ≤ 16 := by
    have e1 : (es.toList.map (·.key)).Nodup := hst.2.2
    have e2 : (es.toList.map (·.key)) ⊆ ks.map Value.string := by
      intro v hv
      obtain ⟨x, hx, rfl⟩ := List.mem_map.1 hv
      obtain ⟨s, h1, h2⟩ := hkey x hx
      rw [h1]; exact List.mem_map.2 ⟨s, hk s _ h2, rfl⟩
    have := e1.length_le_of_subset e2
    simp at this
    omega
  have hrd : ∀ x ∈ es.toList, ∃ s, x.key = .string s ∧ f s = some x.val ∧ rd Yba.prog 9 anyElem x = some (.string s.data.toList, .nil) := by
    intro x hx
    obtain ⟨s, h1, h2⟩ := hkey x hx
    refine ⟨s, h1, h2, ?_⟩
    simp [WideElems.rd, h1, keyOf_string_mk Yba.underlying9 (hs s _ h2), anyElem]
  have F : Fit Yba.prog 9 anyElem es clock := ⟨by unfold maxLen; omega, hst, fun x hx => by obtain ⟨s, _, _, h⟩ := hrd x hx; exact ⟨_, h⟩⟩
  refine ⟨es.size, _, ⟨es, clock, hb, F, Nat.le_refl _, rfl⟩, ?_, ?_⟩
  · rw [size_eq, length_sorted]; simpa using hsz
  · intro x
    rw [has_eq, List.any_eq_true]
    constructor
    · rintro ⟨p, hp, hq⟩
      obtain ⟨y, hy, rfl⟩ := List.mem_map.1 (mem_sorted.1 hp)
      obtain ⟨s, h1, h2, h3⟩ := hrd y hy
      rw [rg_of h3] at hq
      have : s.data.toList = x := by simpa [Lit.sameKey] using hq
      subst this
      exact ⟨_, h2⟩
    · rintro ⟨v, hv⟩
      obtain ⟨y, hy, hyk, _⟩ := (hf _ v).1 hv
      obtain ⟨s, h1, h2, h3⟩ := hrd y hy
      refine ⟨_, mem_sorted.2 (List.mem_map.2 ⟨y, hy, rfl⟩), ?_⟩
      rw [rg_of h3]
      rw [hyk] at h1
      simp at h1
      subst h1
      simp [Lit.sameKey]

set_option maxRecDepth 100000 in
set_option maxHeartbeats 1000000 in
theorem keys18_in {H : Type} (F : Fence) (n : Nat) (h18 : F.fn 18) (hro : F.round = none) (hn : 1 ≤ n) (l Bm b nn : Nat) (D0 : DataW H) {R : Value → Option (DataW H × List MemPlace)} (J Jx : List (List UInt8) → World → Prop)
    (hY : ∀ pre x W, J pre W → pre.length < Maps.size D0 → YieldAt F (n - 1) Yba.prog l #[encStr x] W fun e W' =>
      (e = .returned (.bool true) ∧ J (pre ++ [x]) W' ∧ KeepsWalks W W') ∨ (e = .returned (.bool false) ∧ Jx (pre ++ [x]) W'))
    (W : World) (hJ : AbidesFrom W.heap.size J) (hm : W.cell? ⟨Bm, 0, none⟩ = some (.map (some b))) (hown : W.ownsMap Yba.prog 9 R b nn D0) (h0 : J [] W) :
    CallsIn F n Yba.prog 18 #[.func (.yield l) #[] #[], .pointer (some ⟨Bm, 0, none⟩)] W fun e W' => (∃ v, e = .returned v) ∧
      ((∃ ss : List (List UInt8), (ss.Nodup ∧ ∀ x, x ∈ ss ↔ has D0 (.string x) = true) ∧ J ss W') ∨ (∃ pre : List (List UInt8), True ∧ Jx pre W')) := by
  refine callsIn_of_wp Yba.func18 rfl h18 ?_ hro
  simp only [Yba.ntmps18, List.size_toArray, List.length_cons, List.length_nil, Nat.reduceAdd, Nat.reduceSub, Array.replicate_succ, Array.replicate_zero, List.push_toArray, List.append_toArray, List.nil_append, List.cons_append]
  gi_wp2_with (first
    | (gi_at_range; refine wpListIn_range_own _ rfl _ 49 rfl 9 50 (string_keyed Yba.underlying9) Yba.underlying49 _ b nn _ rfl hown ?_; intro w0 hrg0 hg0 hs0)
    | gi_in)
  go_frame
  gi_loopw [3] (fun _ wr => ∃ (left : Lit → Bool) (cnt : Nat) (ss : List (List UInt8)), wr.ranges Yba.prog 9 R b W.heap.size nn D0 left cnt ∧ ss.length + cnt ≤ Maps.size D0 ∧ Collected D0 left ss ∧ J ss wr)
    (fun _ wr => wr.rangeLeft b W.heap.size)
  case atStart =>
    exact ⟨_, _, [], hrg0, by simp, Collected.start D0, hJ [] W w0 none h0 hg0 (fun r e => by cases e)⟩
  case round =>
    obtain ⟨left, cnt, ss, hrg, hcs, hC, hJs⟩ := hrel
    gi_wp2_with (first
      | (gi_at_next; refine wpListIn_next_ranges _ rfl _ rfl 9 (string_keyed Yba.underlying9) R encStr id (fun key kl hk => by obtain ⟨x, hx, _⟩ := Maps.keyOf_str Yba.underlying9 hk; exact ⟨x, hx⟩) (fun v _ _ => ⟨v, rfl⟩) b W.heap.size nn _ _ _ rfl hrg ?_ ?_)
      | gi_in)
    · intro hc0 hl0
      gi_wp2
      go_end0
      exact ⟨⟨_, rfl⟩, .inl ⟨ss, ⟨hC.1, fun x => by rw [hC.2 x, hl0]; simp⟩, hJs⟩⟩
    · intro x c kl yd yp w2 cnt2 hkey hlk hv hat hrg2 hlt hg2 hs2 hen
      obtain ⟨x', ex, rfl, _⟩ := Maps.keyOf_str Yba.underlying9 hkey
      obtain rfl : x = x' := encStr_inj ex
      have hJ2 : J ss w2 := hJ ss wr w2 (some W.heap.size) hJs hg2 (fun r e => by cases e; exact ⟨Nat.le_refl _, hrg.iter_walk⟩)
      obtain ⟨fn, tmps, assign, body, hy, hR⟩ := hY ss x w2 hJ2 (by omega)
      clear hs2
      gi_wp2
      refine hR.mono ?_
      have hC2 := hC.step hlk hat
      rintro e W3 (⟨rfl, hJ3, hk3⟩ | ⟨rfl, hJx3⟩)
      · gi_wp2
        have hrg3 := hrg2.of_walks hk3
        go_roundw
        case rel => exact ⟨_, cnt2, ss ++ [x], hrg3, by simp; omega, hC2, hJ3⟩
        case measure => rw [hrg3.left_eq, hrg.left_eq]; exact hlt
      · gi_wp2
        refine bodyPost_ret (results_none rfl _ _ _) rfl ?_
        exact ⟨⟨_, rfl⟩, .inr ⟨ss ++ [x], trivial, hJx3⟩⟩

theorem keys18_stops {H : Type} (F : Fence) (n : Nat) (h18 : F.fn 18) (hro : F.round = none) (hn : 1 ≤ n) (Bm b nn : Nat) (D0 : DataW H) {R : Value → Option (DataW H × List MemPlace)} (w : World) (hBm : Bm < w.heap.size)
    (hm : w.cell? ⟨Bm, 0, none⟩ = some (.map (some b))) (hown : w.ownsMap Yba.prog 9 R b nn D0) :
    SeqStops F n Yba.prog 18 #[.pointer (some ⟨Bm, 0, none⟩)] encStr (fun ss => ss.Nodup ∧ ∀ x, x ∈ ss ↔ has D0 (.string x) = true) (fun _ => True) (Maps.size D0) w := fun l J Jx W hW hJ _ hY h0 => by
  have hown' : W.ownsMap Yba.prog 9 R b nn D0 := by
    have hbl := hown.lt
    obtain ⟨es, clock, hb, Ft, hs, hD⟩ := hown
    exact ⟨es, clock, (hW.block b hbl).trans hb, Ft, hs, hD⟩
  exact keys18_in F n h18 hro hn l Bm b nn D0 J Jx hY W hJ ((hW.cell (p := ⟨Bm, 0, none⟩) hBm).trans hm) hown' h0

set_option maxRecDepth 100000 in
set_option maxHeartbeats 1000000 in
theorem keys18_nil_in (F : Fence) (n : Nat) (hf : F.fn 18) (hro : F.round = none) (l Bm : Nat) (J : List (List UInt8) → World → Prop) (W : World) (hJ : AbidesFrom W.heap.size J)
    (hm : W.cell? ⟨Bm, 0, none⟩ = some (.map none)) (h0 : J [] W) :
    CallsIn F n Yba.prog 18 #[.func (.yield l) #[] #[], .pointer (some ⟨Bm, 0, none⟩)] W fun e W' => (∃ v, e = .returned v) ∧ J [] W' := by
  refine callsIn_of_wp Yba.func18 rfl hf ?_ hro
  simp only [Yba.ntmps18, List.size_toArray, List.length_cons, List.length_nil, Nat.reduceAdd, Nat.reduceSub, Array.replicate_succ, Array.replicate_zero, List.push_toArray, List.append_toArray, List.nil_append, List.cons_append]
  have hrg := run_range_nilMap (P := Yba.prog) W 49 9 50 Yba.underlying49
  have hnx : ∀ ty, (Instr.next (.pointer (some ⟨W.heap.size, 0, none⟩)) false ty).run Yba.prog (W.alloc (.mapIter none 0 #[] 0)) = _ := fun ty => run_next_nilMap _ ty 0 0 #[]
  gi_wp2
  refine wpIn_loop_rounds 1 ?_
  rw [roundsIn_succ]
  gi_wp2
  go_end0
  exact ⟨⟨_, rfl⟩, hJ [] W _ none h0 (World.grownBy_alloc W _ none) (fun r e => by cases e)⟩

theorem keys18_stops_nil (F : Fence) (n : Nat) (hf : F.fn 18) (hro : F.round = none) (Bm : Nat) (w : World) (hBm : Bm < w.heap.size) (hm : w.cell? ⟨Bm, 0, none⟩ = some (.map none)) :
    SeqStops F n Yba.prog 18 #[.pointer (some ⟨Bm, 0, none⟩)] encStr (fun xs : List (List UInt8) => xs = []) (fun _ => True) 0 w := fun l J _ W hW hJ _ _ h0 =>
  (keys18_nil_in F n hf hro l Bm J W hJ ((hW.cell (p := ⟨Bm, 0, none⟩) hBm).trans hm) h0).mono fun _ _ ⟨he, hj⟩ => ⟨he, .inl ⟨[], rfl, hj⟩⟩

end Go.Proofs.Ybulkeals
