/- S6350A: slices.Clone and slices.Equal. -/
import Derived.Test.YbulkeamgSet1W
import Derived.Lib.LazyBuf
import Derived.Laws.StructEq
import Derived.Maps.AppendAt
namespace Go.Proofs.Ybulkeamg
open Go.RowKit
set_option linter.unusedSimpArgs false

@[go_sem] theorem eql24 (a : Option Addr) (l c : Nat) (w : World) : (binOp .eql 24 (.slice a l c) (.slice none 0 0)).run Yba.prog w = .ok (.bool a.isNone) w := Go.run_eql_slice_nil w 24 21 a l c Yba.underlying24
@[go_sem] theorem neq23 (a : Option Addr) (l c : Nat) (w : World) : (binOp .neq 23 (.slice a l c) (.slice none 0 0)).run Yba.prog w = .ok (.bool (!a.isNone)) w := Go.run_neq_slice_nil w 23 22 a l c Yba.underlying23

theorem info21 : (Yba.prog.info? 21).map (fun i => (i.zero, i.size, i.bytes)) = some (some (.int .i32 0), 1, 4) := by kernel_rfl

theorem add_mid (b j : Nat) : (⟨b, 0, none⟩ : Addr).add j = ⟨b, j, none⟩ := by
  unfold Addr.add
  split
  · rename_i h; subst h; rfl
  · simp

theorem clone_nil (w : World) : Calls Yba.prog 4 #[.slice none 0 0] w fun e w' => e = .returned (.slice none 0 0) ∧ w = w' := by
  go_enter Yba.func4, Yba.ntmps4
  go_wp2
  go_ret
  exact ⟨rfl, rfl⟩

theorem clone_row (b m : Nat) (xs : List Value) (w : World) (hl : xs.length = m) (hm : m ≤ 65536) (hx : ∀ j u, xs[j]? = some u → w.cell? ⟨b, j, none⟩ = some u) (h1 : ∀ u ∈ xs, u.oneCell' = true) (hb : b < w.heap.size) :
    Calls Yba.prog 4 #[.slice (some ⟨b, 0, none⟩) m m] w fun e w' => ∃ v, e = .returned v ∧ w'.ownsRow w.heap.size 21 1 v m xs ∧ Below w.heap.size w w' := by
  obtain ⟨i, hi, z0, z1, z2⟩ := info_parts info21
  have hx' : ∀ j u, xs[j]? = some u → (w.alloc (.cells #[] 21)).cell? ((⟨b, 0, none⟩ : Addr).add j) = some u := by
    intro j u hj
    rw [add_mid, World.cell?_alloc_past _ _ _ hb]
    exact hx j u hj
  have hown : (w.alloc (.cells #[] 21)).ownsRow w.heap.size 21 1 (.slice (some ⟨w.heap.size, 0, none⟩) 0 0) 0 [] :=
    ⟨rfl, .inr ⟨w.heap.size, 0, #[], rfl, Nat.le_refl _, (MapKept.heap_alloc w _).1, Nat.le_refl _, by unfold maxLen; omega, rfl, rfl⟩⟩
  have HO : Hid ((w.alloc (.cells #[] 21)).ownsRow w.heap.size 21 1 (.slice (some ⟨w.heap.size, 0, none⟩) 0 0) 0 []) := hown
  have HX : Hid _ := hx'
  clear hown hx' hx
  go_enter Yba.func4, Yba.ntmps4
  go_wp2_with (at_builtin; refine wpList_append_own _ rfl (.tmp 5) (.tmp 6) 24 rfl w.heap.size 21 i (.int .i32 0) 1 4 Yba.underlying24 hi z0 z1 z2 rfl (by decide) _ _ _ rfl HO.out ⟨b, 0, none⟩ m m xs rfl (by omega) HX.out h1 (by unfold maxLen; omega) (by omega) (by simp) ?_; intro v' w1 hown1 hg1 _)
  go_ret
  refine ⟨v', rfl, by simpa using hown1, ?_⟩
  exact ((Below.refl _ w).alloc (Nat.le_refl _) _).grown hg1 (by simp) (fun q e => (HO.out.lt q e).1)

theorem equal32 (sA sB : Option Addr) (b g m c1 c2 : Nat) (A : Nat → Nat) (w : World) (hm : m ≤ 65536) (hs : 0 < m → sA = some ⟨b, 0, none⟩ ∧ sB = some ⟨g, 0, none⟩) (h1 : ∀ k, k < m → w.cell? ⟨b, k, none⟩ = some (.int .i32 (A k))) (h2 : ∀ k, k < m → w.cell? ⟨g, k, none⟩ = some (.int .i32 (A k))) :
    Calls Yba.prog 7 #[.slice sA m c1, .slice sB m c2] w fun e w' => e = .returned (.bool true) ∧ ∃ q, w' = w.drewN q := by
  have H1 : Hid _ := h1
  have H2 : Hid _ := h2
  have HS : Hid _ := hs
  clear h1 h2 hs
  go_enter Yba.func7, Yba.ntmps7
  go_wp2_with fail
  go_loopw [13] (fun v wr => ∃ k q : Nat, k ≤ m ∧ v = .int .i64 k ∧ wr = w.drewN q) (fun v _ => m - (intOf v).toNat)
  case atStart => exact ⟨0, 0, Nat.zero_le _, rfl, rfl⟩
  case round =>
    obtain ⟨k, q, hk, rfl, e⟩ := hrel
    have he : Hid (wr = w.drewN q) := e
    by_cases hlt : k < m
    · obtain ⟨es, et⟩ := HS.out (by omega)
      subst es et
      have c1 : wr.cell? ⟨b, k, none⟩ = some (.int .i32 (A k)) := by rw [e]; exact H1.out k hlt
      have c2 : wr.cell? ⟨g, k, none⟩ = some (.int .i32 (A k)) := by rw [e]; exact H2.out k hlt
      clear e
      go_wp2_with fail
      go_quiet (fail)
      go_wp2_with fail
      exact ⟨⟨k + 1, q + nq, by omega, by go_num, by rw [he.out]; simp [World.drewN_drewN]⟩, by simp [intOf]; omega⟩
    · clear e
      go_wp2_with fail
      go_ret
      exact ⟨rfl, q, he.out⟩

theorem equal64 (b g m c1 c2 : Nat) (A : Nat → Nat) (w : World) (hm : m ≤ 65536) (h1 : ∀ k, k < m → w.cell? ⟨b, k, none⟩ = some (.int .u64 (A k))) (h2 : ∀ k, k < m → w.cell? ⟨g, k, none⟩ = some (.int .u64 (A k))) :
    Calls Yba.prog 8 #[.slice (some ⟨b, 0, none⟩) m c1, .slice (some ⟨g, 0, none⟩) m c2] w fun e w' => e = .returned (.bool true) ∧ ∃ q, w' = w.drewN q := by
  have H1 : Hid _ := h1
  have H2 : Hid _ := h2
  clear h1 h2
  go_enter Yba.func8, Yba.ntmps8
  go_wp2_with fail
  go_loopw [13] (fun v wr => ∃ k q : Nat, k ≤ m ∧ v = .int .i64 k ∧ wr = w.drewN q) (fun v _ => m - (intOf v).toNat)
  case atStart => exact ⟨0, 0, Nat.zero_le _, rfl, rfl⟩
  case round =>
    obtain ⟨k, q, hk, rfl, e⟩ := hrel
    have he : Hid (wr = w.drewN q) := e
    by_cases hlt : k < m
    · have c1 : wr.cell? ⟨b, k, none⟩ = some (.int .u64 (A k)) := by rw [e]; exact H1.out k hlt
      have c2 : wr.cell? ⟨g, k, none⟩ = some (.int .u64 (A k)) := by rw [e]; exact H2.out k hlt
      clear e
      go_wp2_with fail
      go_quiet (fail)
      go_wp2_with fail
      exact ⟨⟨k + 1, q + nq, by omega, by go_num, by rw [he.out]; simp [World.drewN_drewN]⟩, by simp [intOf]; omega⟩
    · clear e
      go_wp2_with fail
      go_ret
      exact ⟨rfl, q, he.out⟩
end Go.Proofs.Ybulkeamg
