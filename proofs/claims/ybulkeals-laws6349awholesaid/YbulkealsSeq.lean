/- slices.AppendSeq onto a slice of the call's own (function 14), over maps.Keys (15). -/
import Derived.Test.YbulkealsKeys
namespace Go.Proofs.Ybulkeals
open Go.RowKit Go.MapKept Go.Maps Go.Sort Go.Shelf
set_option linter.unusedSimpArgs false
attribute [local go_sem] Oper.semAt_some

theorem info9 : (Yba.prog.info? 9).map (fun i => (i.zero, i.size, i.bytes)) = some (some (.string ⟨#[]⟩), 1, 16) := by kernel_rfl

theorem keys_any (m : Option Nat) (w : World) : Calls Yba.prog 15 #[.map m] w fun e w' => e = .returned (.func (.func 18) #[] #[.pointer (some ⟨w.heap.size, 0, none⟩)]) ∧ w' = w.alloc (.cells #[.map m] 49) := by
  go_enter Yba.func15, Yba.ntmps15
  go_wp2
  go_ret
  exact ⟨rfl, rfl⟩

set_option maxRecDepth 100000 in
set_option maxHeartbeats 2000000 in
theorem appendSeq_in (F : Fence) (n : Nat) (h14 : F.fn 14) (h18 : F.fn 18) (hro : F.round = none) (hn : 3 ≤ n) (n₁ Bm k : Nat) (v : Value) (xs : List Value) (S : List (List UInt8) → Prop) (N : Nat) (w : World)
    (hrow : w.ownsRow n₁ 9 1 v k xs) (hn₁ : n₁ ≤ w.heap.size) (hk : k + N ≤ 1000000000)
    (hseq : ∀ W, Below w.heap.size w W → SeqStops F (n - 1) Yba.prog 18 #[.pointer (some ⟨Bm, 0, none⟩)] encStr S (fun _ => True) N W) :
    CallsIn F n Yba.prog 14 #[v, .func (.func 18) #[] #[.pointer (some ⟨Bm, 0, none⟩)]] w fun e W' => ∃ v' ss, e = .returned v' ∧ S ss ∧ W'.ownsRow n₁ 9 1 v' (k + ss.length) (xs ++ ss.map encStr) ∧ Below n₁ w W' := by
  have h1 : 1 ≤ n := by omega
  obtain ⟨i0, hi, hz0, hz1, hz2⟩ := info_parts info9
  have hv0 : ∃ a c, v = .slice a k c := by
    rcases hrow.2 with ⟨rfl, h⟩ | ⟨g, cap, cur, rfl, _⟩
    · exact ⟨none, 0, by rw [h]⟩
    · exact ⟨_, _, rfl⟩
  obtain ⟨a0, c0, rfl⟩ := hv0
  refine callsIn_of_wp_marks Yba.func14 rfl h14 ?_ hro
  simp only [Yba.ntmps14, List.size_toArray, List.length_cons, List.length_nil, Nat.reduceAdd, Nat.reduceSub, Array.replicate_succ, Array.replicate_zero, List.push_toArray, List.append_toArray, List.nil_append, List.cons_append]
  gi_wp2
  have bO := Boxed.new w 23 (.slice a0 k c0)
  have hB0 : Below n₁ w (w.alloc (.cells #[.slice a0 k c0] 23)) := (Below.refl _ w).alloc hn₁ _
  refine wpIn_rangeFunc_ownG hro h1 (gf := 18) (lb := #[.pointer (some ⟨Bm, 0, none⟩)]) rfl h18 (enters_of Yba.func18 (by kernel_rfl) rfl)
    (hseq _ ((Below.refl _ w).alloc (Nat.le_refl _) _)) walksK_t walksK_b (Below.refl _ _) (fun _ => rfl)
    (fun pre W => (∃ v, Boxed W w.heap.size 23 v ∧ W.ownsRow n₁ 9 1 v (k + pre.length) (xs ++ pre.map encStr) ∧ True) ∧ Below n₁ w W)
    (fun _ _ _ => False)
    (OwnFrom.and (Own.from (holdsRow_own n₁ w.heap.size 23 9 1 (fun pre : List (List UInt8) => k + pre.length) (fun pre => xs ++ pre.map encStr) (fun _ _ => True)) _) (ownFrom_below hn₁ (by simp; omega)))
    (fun _ _ _ _ _ hs _ _ => hs)
    ⟨⟨_, bO, by simpa using hrow.alloc _, trivial⟩, hB0⟩
    (fun x => { tmps := #[.slice a0 k c0, .func (.func 18) #[] #[.pointer (some ⟨Bm, 0, none⟩)], .pointer (some ⟨w.heap.size, 0, none⟩), undef, .slice none 0 0, encStr x, .func (.func 18) #[] #[.pointer (some ⟨Bm, 0, none⟩)], encStr x, undef, undef, undef, undef, undef], defers := [] }) ?assign ?body ?done ?stop
  case assign =>
    intro l x W K hK
    gi_wp2
    exact hK
  case body =>
    rintro l pre x W ⟨⟨v, hv, hrow, _⟩, hB⟩ hlt
    have hc := hv.cell
    gi_wp2_with (gi_at_builtin; refine wpListIn_append_own _ rfl _ _ 23 rfl n₁ 9 i0 (.string ⟨#[]⟩) 1 16 Yba.underlying23 hi hz0 hz1 hz2 rfl (by decide) _ _ _ rfl (hrow.alloc _) ⟨W.heap.size, 0, none⟩ 1 1 [encStr x] rfl rfl (cell_one_new _ _ _) (by simp [Value.oneCell', encStr]) (by unfold maxLen; omega) (by omega) (by have := hB.size; simp; omega) ?_; intro v' w1 hown' hgrow _; obtain ⟨g', cap', rfl⟩ := ownsRow_succ hown'; obtain ⟨hv1, hv2, hr2, hk2, hb2⟩ := hv.appended (by decide) hrow (Nat.le_trans hn₁ hB.size) hn₁ hown' hgrow; have hc1 := hv1.cell; have hf1 := hv1.frozen)
    exact ⟨hk2.from _, hk2.walks, ⟨_, hv2, by simpa [Nat.add_assoc] using hr2, trivial⟩, hB.trans hb2⟩
  case done =>
    rintro D ys W hD hS ⟨⟨v, hv, hrow, _⟩, hB⟩ hK
    have hc := hv.cell
    gi_wp2
    refine ⟨by simp, .inl ⟨_, _, rfl, run_takeDeferred hK, ?_⟩⟩
    exact ⟨_, results_tmp rfl _ _ _, v, ys, rfl, hS, ownsRow_putObj hrow _ hK rfl, hB.trans (belowK_b (w := w) hn₁ W D _ _ (by simp at hD; omega) hK rfl rfl)⟩
  case stop =>
    rintro D c pre W _ _ h _
    exact h.elim
end Go.Proofs.Ybulkeals
