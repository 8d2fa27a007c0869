/- LawS6357CWhole: what is left to be read behind the iterator's run. -/
import Derived.Test.YbulkeaqaCEnt
import Derived.Lib.Builder
import Derived.Laws.StructEq
namespace Go.Proofs.Ybulkeaqa
open Go.RowKit
set_option linter.unusedSimpArgs false

@[go_sem] theorem eq34 (a b c d e f g h : Int) (w : World) : (Op.equalIn 10000 34 (.agg #[.int .u8 a, .int .u8 b, .int .u8 c, .int .u8 d, .int .u8 e, .int .u8 f, .int .u8 g, .int .u8 h]) (.agg #[.int .u8 a, .int .u8 b, .int .u8 c, .int .u8 d, .int .u8 e, .int .u8 f, .int .u8 g, .int .u8 h])).run Yba.prog w = .ok true w := by
  have u3 := Yba.underlying5
  have a3 := Yba.isAgg5
  have z3 := Yba.sizeOf5
  rw [show (10000 : Nat) = 9999 + 1 from rfl, Op.equalIn]
  simp only [Sem.run_bind, run_underlying Yba.underlying34, Result.andThen_ok]
  simp only [Std.Legacy.Range.forIn_eq_forIn_range', Std.Legacy.Range.size, Nat.sub_zero, Nat.add_sub_cancel, Nat.div_one, List.range'_succ, List.range'_zero, List.forIn_cons, List.forIn_nil]
  go_simp

theorem info64 : (Yba.prog.info? 64).map (fun _ => ()) = some () := by kernel_rfl
@[go_sem] theorem neq62 (a : Addr) (w : World) : (binOp .neq 62 (.pointer (some a)) (.pointer (some a))).run Yba.prog w = .ok (.bool false) w := by
  obtain ⟨i, hi, _⟩ := Option.map_eq_some_iff.mp info64
  exact Lib.run_neq_ptr_same w a Yba.underlying62 hi

theorem row_get {w : World} {base n k : Nat} {e : TypeId} {v x : Value} {xs : List Value} (h : w.ownsRow base e 1 v n xs) (hk : xs[k]? = some x) : ∃ g c, v = .slice (some ⟨g, 0, none⟩) n c ∧ w.cell? ⟨g, k, none⟩ = some x ∧ g < w.heap.size := by
  have hlt : k < xs.length := (List.getElem?_eq_some_iff.mp hk).1
  obtain ⟨h1, h2⟩ := h
  rcases h2 with ⟨rfl, h⟩ | ⟨g, cap, cur, rfl, hg, hh, r1, r2, r3, r4⟩
  · omega
  · refine ⟨g, cap, rfl, ?_, (Array.getElem?_eq_some_iff.1 hh).1⟩
    have e := congrArg (fun x => x[k]?) r4
    simp only [Nat.mul_one, List.getElem?_take, show k < n by omega, if_true, hk] at e
    refine cell_of hh ?_
    rw [← Array.getElem?_toList, e]

/-- The world in which the iterator is called. -/
def callW (w wt : World) (n : Nat) : World := ((wt.alloc (.cells #[.slice none 0 0] 61)).alloc (.cells #[.slice none 0 0] 65)).alloc (.cells #[.pointer (ptrAt (w.heap.size + 2) n 0)] 62)

theorem callW_size (w wt : World) (n : Nat) : (callW w wt n).heap.size = wt.heap.size + 3 := by simp [callW]
theorem callW_old (w wt : World) (n : Nat) {b : Nat} (h : b < wt.heap.size) : (callW w wt n).heap[b]? = wt.heap[b]? := by
  unfold callW
  rw [(MapKept.heap_alloc _ _).2 b (by simp; omega), (MapKept.heap_alloc _ _).2 b (by simp; omega), (MapKept.heap_alloc _ _).2 b h]
theorem callW_g (w wt : World) (n : Nat) : (callW w wt n).heap[wt.heap.size]? = some (.cells #[.slice none 0 0] 61 (0, 0)) := by
  unfold callW
  rw [(MapKept.heap_alloc _ _).2 _ (by simp; omega), (MapKept.heap_alloc _ _).2 _ (by simp), (MapKept.heap_alloc _ _).1]
theorem callW_s (w wt : World) (n : Nat) : (callW w wt n).heap[wt.heap.size + 1]? = some (.cells #[.slice none 0 0] 65 (0, 0)) := by
  unfold callW
  rw [(MapKept.heap_alloc _ _).2 _ (by simp)]
  have := (MapKept.heap_alloc (wt.alloc (.cells #[.slice none 0 0] 61)) (.cells #[.slice none 0 0] 65)).1
  rwa [World.size_alloc] at this
theorem callW_b (w wt : World) (n : Nat) : (callW w wt n).heap[wt.heap.size + 2]? = some (.cells #[.pointer (ptrAt (w.heap.size + 2) n 0)] 62 (0, 0)) := by
  unfold callW
  have := (MapKept.heap_alloc ((wt.alloc (.cells #[.slice none 0 0] 61)).alloc (.cells #[.slice none 0 0] 65)) (.cells #[.pointer (ptrAt (w.heap.size + 2) n 0)] 62)).1
  rwa [World.size_alloc, World.size_alloc] at this

theorem at_start {w wm wt : World} {TG : Nat → Nat → Int} {lim n : Nat} (hM : Made w wm TG lim n n (n - 1)) (hb : Below wm.heap.size wm wt) :
    At (callW w wt n) (callW w wt n) (wt.heap.size + 3) wt.heap.size (wt.heap.size + 1) w.heap.size (wt.heap.size + 2) (w.heap.size + 2) n TG lim 0 0 := by
  have hz := hM.size
  have hz2 := hb.size
  refine ⟨⟨?_, by omega, by omega, fun k hk => by omega, fun k hk => ?_⟩, callW_b w wt n, ?_, ?_, But.refl _ _ _⟩
  · rw [callW_old w wt n (by omega), hb.block _ (by omega)]; exact hM.box
  · rw [callW_old w wt n (by omega), hb.block _ (by omega)]; exact hM.next hk
  · exact ⟨by omega, by omega, by omega, by rw [callW_size]; omega, ⟨_, callW_g w wt n, World.ownsRow_nil _ _ _ _⟩, ⟨_, callW_s w wt n, World.ownsRow_nil _ _ _ _⟩⟩
  · show lim = 0 ∨ 0 < lim
    omega

theorem entries_fn (p : Option Addr) (W : World) : Calls Yba.prog 12 #[.pointer p] W fun e W' => e = .returned (.func (.func 21) #[] #[.pointer (some ⟨W.heap.size, 0, none⟩)]) ∧ W' = W.alloc (.cells #[.pointer p] 62) := by
  go_enter Yba.func12, Yba.ntmps12
  go_wp2
  go_ret
  exact ⟨rfl, rfl⟩

/-- What the last two loops read. -/
structure Fin (w W : World) (G n lim : Nat) (TG : Nat → Nat → Int) (ag as_ : Option Addr) (cg cs : Nat) (a10 a11 : Option Addr) : Prop where
  below : Below w.heap.size w W
  row : W.heap[w.heap.size + 1]? = some (.cells (bsA (w.heap.size + 2) n n) 62 (0, 0))
  bk : ∀ k, k < n → W.heap[w.heap.size + 2 + k]? = some (.cells (bktA TG k (ptrAt (w.heap.size + 2) n (k + 1))) 64 (0, 0))
  g : W.cell? ⟨G, 0, none⟩ = some (.slice ag (wantN lim (exTo TG n).length) cg)
  s : W.cell? ⟨G + 1, 0, none⟩ = some (.slice as_ (wantN lim (exTo TG n).length) cs)
  five : ∀ k, k < wantN lim (exTo TG n).length → ∃ j i bg bs b0 b1 : Nat, j < n ∧ i < 8 ∧ ag = some ⟨bg, 0, none⟩ ∧ as_ = some ⟨bs, 0, none⟩ ∧ a10 = some ⟨b0, 0, none⟩ ∧ a11 = some ⟨b1, 0, none⟩ ∧
    W.cell? ⟨bg, k, none⟩ = some (.pointer (some ⟨w.heap.size + 2 + j, 0, none⟩)) ∧ W.cell? ⟨bs, k, none⟩ = some (.int .i64 i) ∧ W.cell? ⟨b0, k, none⟩ = some (.int .i64 j) ∧ W.cell? ⟨b1, k, none⟩ = some (.int .i64 i)

theorem Fin.drew {w W : World} {G n lim : Nat} {TG : Nat → Nat → Int} {ag as_ : Option Addr} {cg cs : Nat} {a10 a11 : Option Addr} (h : Fin w W G n lim TG ag as_ cg cs a10 a11) (q : Nat) : Fin w (W.drewN q) G n lim TG ag as_ cg cs a10 a11 :=
  ⟨⟨h.below.os, h.below.tape, h.below.output, h.below.size, h.below.block⟩, h.row, h.bk, h.g, h.s, h.five⟩

theorem fin {w wm wt W' : World} {TG : Nat → Nat → Int} {lim n : Nat} {a10 a11 : Option Addr} {c10 c11 : Nat} (hM : Made w wm TG lim n n (n - 1)) (hb : Below wm.heap.size wm wt)
    (h2 : Two wt wm.heap.size (.slice a10 (exTo TG n).length c10) (.slice a11 (exTo TG n).length c11) (fsts (exTo TG n)) (snds (exTo TG n)))
    (hL : Logs W' (wt.heap.size + 3) wt.heap.size (wt.heap.size + 1) (got TG n lim).length (ptrs (w.heap.size + 2) (got TG n lim)) (snds (got TG n lim)))
    (hB : But (wt.heap.size + 3) (fun b => b = wt.heap.size ∨ b = wt.heap.size + 1 ∨ b = wt.heap.size + 2) (callW w wt n) W') :
    ∃ ag as_ cg cs, Fin w W' wt.heap.size n lim TG ag as_ cg cs a10 a11 := by
  have hz := hM.size
  have hz2 := hb.size
  have old : ∀ b, b < wt.heap.size → W'.heap[b]? = wt.heap[b]? := fun b h => (hB.block b (by omega) (by simp; omega)).trans (callW_old w wt n h)
  have mid : ∀ b, b < wm.heap.size → W'.heap[b]? = wm.heap[b]? := fun b h => (old b (by omega)).trans (hb.block b h)
  have cold : ∀ b o, b < wt.heap.size → W'.cell? ⟨b, o, none⟩ = wt.cell? ⟨b, o, none⟩ := fun b o h => by simp only [World.cell?, old b h]
  obtain ⟨vg, bg, rg⟩ := hL.g
  obtain ⟨vs, bs, rs⟩ := hL.s
  rw [got_len] at rg rs
  obtain ⟨ag, cg, rfl⟩ := owns_shape rg
  obtain ⟨as_, cs, rfl⟩ := owns_shape rs
  have hbw : Below w.heap.size w W' := by
    refine ⟨?_, ?_, ?_, ?_, ?_⟩
    · rw [hB.os]; exact hb.os.trans hM.below.os
    · rw [hB.tape]; exact hb.tape.trans hM.below.tape
    · rw [hB.output]; exact hb.output.trans hM.below.output
    · have := hB.size; rw [callW_size] at this; omega
    · intro b h; exact (mid b (by omega)).trans (hM.below.block b h)
  refine ⟨ag, as_, cg, cs, hbw, (mid _ (by omega)).trans hM.row, fun k hk => (mid _ (by omega)).trans (hM.next hk), bg.cell, bs.cell, fun k hk => ?_⟩
  obtain ⟨x, hx1, hx2, hx3, hx4⟩ := got_get hk
  obtain ⟨b1, _, e1, k1, _⟩ := row_get (k := k) rg (by unfold ptrs; rw [List.getElem?_map, hx1]; rfl)
  obtain ⟨b2, _, e2, k2, _⟩ := row_get (k := k) rs (by unfold snds; rw [List.getElem?_map, hx1]; rfl)
  obtain ⟨b3, _, e3, k3, l3⟩ := row_get (k := k) h2.fst (by unfold fsts; rw [List.getElem?_map, hx2]; rfl)
  obtain ⟨b4, _, e4, k4, l4⟩ := row_get (k := k) h2.snd (by unfold snds; rw [List.getElem?_map, hx2]; rfl)
  simp only [Value.slice.injEq] at e1 e2 e3 e4
  exact ⟨x.1, x.2, b1, b2, b3, b4, hx3, hx4, e1.1, e2.1, e3.1, e4.1, k1, k2, (cold b3 k l3).trans k3, (cold b4 k l4).trans k4⟩
end Go.Proofs.Ybulkeaqa
