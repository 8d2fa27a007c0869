/- LawS6357CWhole: the logging yield (13), the iterator (21). -/
import Derived.Test.YbulkeaqaCPlain
import Derived.RegionTactic
import Derived.BigRegion
import Derived.Deep.QuietTactic
import Derived.BigQuiet
import Derived.Maps.AppendAt
import Derived.RangeFuncBox
import Derived.Deep.DeepMust
namespace Go.Proofs.Ybulkeaqa
open Go.RowKit
set_option linter.unusedSimpArgs false

theorem info62 : (Yba.prog.info? 62).map (fun i => (i.zero, i.size, i.bytes)) = some (some (.pointer none), 1, 8) := by kernel_rfl
theorem info3 : (Yba.prog.info? 3).map (fun i => (i.zero, i.size, i.bytes)) = some (some (.int .i64 0), 1, 8) := by kernel_rfl

/-- Below n only the blocks in S have turned. -/
structure But (n : Nat) (S : Nat → Prop) (w w' : World) : Prop where
  os : w'.os = w.os
  tape : w'.tape = w.tape
  output : w'.output = w.output
  size : w.heap.size ≤ w'.heap.size
  block : ∀ b, b < n → ¬ S b → w'.heap[b]? = w.heap[b]?

theorem But.refl (n : Nat) (S : Nat → Prop) (w : World) : But n S w w := ⟨rfl, rfl, rfl, Nat.le_refl _, fun _ _ _ => rfl⟩
theorem But.trans {n : Nat} {S : Nat → Prop} {a b c : World} (h : But n S a b) (k : But n S b c) : But n S a c :=
  ⟨k.os.trans h.os, k.tape.trans h.tape, k.output.trans h.output, Nat.le_trans h.size k.size, fun i hi hs => (k.block i hi hs).trans (h.block i hi hs)⟩
theorem But.grow {n k : Nat} {S : Nat → Prop} {w w1 : World} {e : TypeId} {v : Value} {xs : List Value} {o : Obj} (hrow : w.ownsRow n e 1 v k xs) (hg : (w.alloc o).grownBy w1 v.ownBlock) (hn : n ≤ w.heap.size) : But n S w w1 := by
  refine ⟨hg.os, hg.tape, hg.output, by have := hg.size; simp at this; omega, fun b hb _ => ?_⟩
  rw [hg.block b (by simp; omega) (fun e => by have := (hrow.lt b e.symm).1; omega), (MapKept.heap_alloc w o).2 b (by omega)]
theorem But.set {n B : Nat} {S : Nat → Prop} {w : World} (o : Nat) (v : Value) (hS : S B) : But n S w (w.setCell ⟨B, o, none⟩ v) :=
  ⟨rfl, rfl, rfl, by simp [World.setCell], fun b _ hs => Below.heap_setCell _ _ _ _ (fun e => hs (by rw [e]; exact hS))⟩
theorem But.drewN {n : Nat} {S : Nat → Prop} {w w' : World} (h : But n S w w') (q : Nat) : But n S w (w'.drewN q) := ⟨h.os, h.tape, h.output, h.size, h.block⟩

/-- Two owned rows of different element types lie apart. -/
theorem rows_ne {w : World} {n k m : Nat} {e e' : TypeId} {u v : Value} {xs ys : List Value} (hu : w.ownsRow n e 1 u k xs) (hv : w.ownsRow n e' 1 v m ys) (hne : e ≠ e') : u.ownBlock = none ∨ u.ownBlock ≠ v.ownBlock := by
  rcases hu.2 with ⟨rfl, _⟩ | ⟨g, cap, cur, rfl, _, hg, _⟩
  · exact .inl rfl
  · right
    rcases hv.2 with ⟨rfl, _⟩ | ⟨g', cap', cur', rfl, _, hg', _⟩
    · simp [Value.ownBlock]
    · simp only [Value.ownBlock, ne_eq, Option.some.injEq]
      intro e
      subst e
      rw [hg] at hg'
      simp at hg'
      exact hne hg'.2

theorem set_row {w : World} {n k B o : Nat} {e : TypeId} {v x : Value} {xs : List Value} (h : w.ownsRow n e 1 v k xs) (hB : B < n) : (w.setCell ⟨B, o, none⟩ x).ownsRow n e 1 v k xs :=
  ownsRow_setCell_below h (a := ⟨B, o, none⟩) hB x

theorem owns_shape {w : World} {n k : Nat} {e : TypeId} {v : Value} {xs : List Value} (h : w.ownsRow n e 1 v k xs) : ∃ a c, v = .slice a k c := by
  rcases h.2 with ⟨rfl, h0⟩ | ⟨g, cap, cur, rfl, _⟩
  · exact ⟨none, 0, by rw [h0]⟩
  · exact ⟨_, _, rfl⟩

/-- What the logging yield keeps between two calls: k calls so far. -/
structure Logs (W : World) (n Bg Bs k : Nat) (gl sl : List Value) : Prop where
  lg : Bg < n
  ls : Bs < n
  ne : Bg ≠ Bs
  size : n ≤ W.heap.size
  g : ∃ vg, Boxed W Bg 61 vg ∧ W.ownsRow n 62 1 vg k gl
  s : ∃ vs, Boxed W Bs 65 vs ∧ W.ownsRow n 3 1 vs k sl

theorem log_g {W w1 : World} {n Bg Bs Bl k lim : Nat} {gl sl : List Value} {vg vs x : Value} {o : Obj} (hlg : Bg < n) (hls : Bs < n) (hne : Bg ≠ Bs) (hsz : n ≤ W.heap.size) (bg : Boxed W Bg 61 vg) (bs : Boxed W Bs 65 vs)
    (rg : W.ownsRow n 62 1 vg k gl) (rs : W.ownsRow n 3 1 vs k sl) (hg : (W.alloc o).grownBy w1 vg.ownBlock) {gl' : List Value} (ho : w1.ownsRow n 62 1 x (k + 1) gl')
    (hl : W.heap[Bl]? = some (.cells #[.int .u16 lim] 60 (0, 0))) (hBl : Bl < n) (hlg' : Bl ≠ Bg) :
    w1.cell? ⟨Bg, 0, none⟩ = some vg ∧ w1.frozen? ⟨Bg, 0, none⟩ = false ∧ (w1.setCell ⟨Bg, 0, none⟩ x).cell? ⟨Bs, 0, none⟩ = some vs ∧ (w1.setCell ⟨Bg, 0, none⟩ x).frozen? ⟨Bs, 0, none⟩ = false ∧ n ≤ w1.heap.size ∧
    Hid ((w1.setCell ⟨Bg, 0, none⟩ x).heap[Bl]? = some (.cells #[.int .u16 lim] 60 (0, 0))) ∧ Hid ((w1.setCell ⟨Bg, 0, none⟩ x).ownsRow n 62 1 x (k + 1) gl' ∧ (w1.setCell ⟨Bg, 0, none⟩ x).ownsRow n 3 1 vs k sl ∧ Boxed (w1.setCell ⟨Bg, 0, none⟩ x) Bg 61 x ∧ Boxed (w1.setCell ⟨Bg, 0, none⟩ x) Bs 65 vs ∧ But n (fun b => b = Bg ∨ b = Bs) W (w1.setCell ⟨Bg, 0, none⟩ x)) := by
  have b1 : But n (fun _ => False) W w1 := But.grow rg hg hsz
  have q1 : Boxed w1 Bg 61 vg := (b1.block Bg hlg id).trans bg
  have q2 : Boxed (w1.setCell ⟨Bg, 0, none⟩ x) Bs 65 vs := (Below.heap_setCell _ _ _ _ (Ne.symm hne)).trans ((b1.block Bs hls id).trans bs)
  have b2 : But n (fun b => b = Bg ∨ b = Bs) W w1 := ⟨b1.os, b1.tape, b1.output, b1.size, fun b hb _ => b1.block b hb id⟩
  exact ⟨q1.cell, q1.frozen, q2.cell, q2.frozen, Nat.le_trans hsz b1.size, (Below.heap_setCell _ _ _ _ hlg').trans ((b1.block Bl hBl id).trans hl), set_row ho hlg, set_row ((rs.alloc o).kept hg (rows_ne (rs.alloc o) (rg.alloc o) (by decide))) hlg, q1.set x, q2, b2.trans (But.set 0 x (.inl rfl))⟩

theorem log_s {W w1 : World} {n Bg Bs Bl k lim : Nat} {gl sl : List Value} {vg vs x : Value} {o : Obj} (hlg : Bg < n) (hls : Bs < n) (hne : Bg ≠ Bs) (hsz : n ≤ W.heap.size) (bg : Boxed W Bg 61 vg) (bs : Boxed W Bs 65 vs)
    (rg : W.ownsRow n 62 1 vg (k + 1) gl) (rs : W.ownsRow n 3 1 vs k sl) (hg : (W.alloc o).grownBy w1 vs.ownBlock) {sl' : List Value} (ho : w1.ownsRow n 3 1 x (k + 1) sl')
    (hl : W.heap[Bl]? = some (.cells #[.int .u16 lim] 60 (0, 0))) (hBl : Bl < n) (hls' : Bl ≠ Bs) :
    w1.cell? ⟨Bs, 0, none⟩ = some vs ∧ w1.frozen? ⟨Bs, 0, none⟩ = false ∧ (w1.setCell ⟨Bs, 0, none⟩ x).cell? ⟨Bs, 0, none⟩ = some x ∧ (w1.setCell ⟨Bs, 0, none⟩ x).cell? ⟨Bl, 0, none⟩ = some (.int .u16 lim) ∧
    Hid (Logs (w1.setCell ⟨Bs, 0, none⟩ x) n Bg Bs (k + 1) gl sl' ∧ But n (fun b => b = Bg ∨ b = Bs) W (w1.setCell ⟨Bs, 0, none⟩ x)) := by
  have b1 : But n (fun _ => False) W w1 := But.grow rs hg hsz
  have q1 : Boxed w1 Bs 65 vs := (b1.block Bs hls id).trans bs
  have q2 : Boxed (w1.setCell ⟨Bs, 0, none⟩ x) Bg 61 vg := (Below.heap_setCell _ _ _ _ hne).trans ((b1.block Bg hlg id).trans bg)
  have q3 : (w1.setCell ⟨Bs, 0, none⟩ x).heap[Bl]? = some (.cells #[.int .u16 lim] 60 (0, 0)) := (Below.heap_setCell _ _ _ _ hls').trans ((b1.block Bl hBl id).trans hl)
  have b2 : But n (fun b => b = Bg ∨ b = Bs) W w1 := ⟨b1.os, b1.tape, b1.output, b1.size, fun b hb _ => b1.block b hb id⟩
  exact ⟨q1.cell, q1.frozen, (q1.set x).cell, cell_of q3 rfl, ⟨hlg, hls, hne, by rw [set_cell_size]; exact Nat.le_trans hsz b1.size, ⟨vg, q2, set_row ((rg.alloc o).kept hg (rows_ne (rg.alloc o) (rs.alloc o) (by decide))) hls⟩, ⟨x, q1.set x, set_row ho hls⟩⟩, b2.trans (But.set 0 x (.inr rfl))⟩

set_option maxHeartbeats 1000000 in
theorem yield_any (W : World) (n Bg Bs Bl k i lim : Nat) (gl sl : List Value) (p : Option Addr) (h : Logs W n Bg Bs k gl sl) (hl : W.heap[Bl]? = some (.cells #[.int .u16 lim] 60 (0, 0))) (hBl : Bl < n) (hlg : Bl ≠ Bg) (hls : Bl ≠ Bs) (hk : k ≤ 600000) (hlim : lim ≤ 65535) :
    Calls Yba.prog 13 #[.pointer p, .int .i64 i, .pointer (some ⟨Bg, 0, none⟩), .pointer (some ⟨Bs, 0, none⟩), .pointer (some ⟨Bl, 0, none⟩)] W fun e W' =>
      e = .returned (.bool ((k : Int) + 1 != (lim : Int))) ∧ Logs W' n Bg Bs (k + 1) (gl ++ [.pointer p]) (sl ++ [.int .i64 i]) ∧ But n (fun b => b = Bg ∨ b = Bs) W W' := by
  obtain ⟨vg, bg, rg⟩ := h.g
  obtain ⟨vs, bs, rs⟩ := h.s
  obtain ⟨ag, cg, rfl⟩ := owns_shape rg
  obtain ⟨as_, cs, rfl⟩ := owns_shape rs
  have hsz := h.size
  have hlg' := h.lg
  have hls' := h.ls
  have hne := h.ne
  obtain ⟨ip, hip, zp0, zp1, zp2⟩ := info_parts info62
  obtain ⟨i3, hi3, z30, z31, z32⟩ := info_parts info3
  have hcg := bg.cell
  have hfg := bg.frozen
  have HB : Hid (Boxed W Bg 61 (.slice ag k cg) ∧ Boxed W Bs 65 (.slice as_ k cs)) := ⟨bg, bs⟩
  have hcl := cell_of (o := 0) (v := .int .u16 lim) hl rfl
  have HL : Hid _ := hl
  have HR : Hid (W.ownsRow n 62 1 (.slice ag k cg) k gl ∧ W.ownsRow n 3 1 (.slice as_ k cs) k sl) := ⟨rg, rs⟩
  clear bg bs hl h rg rs
  go_enter Yba.func13, Yba.ntmps13
  go_wp2_with (first
    | (at_builtin; refine wpList_append_own _ rfl (.tmp 8) (.tmp 10) 61 rfl n 62 ip (.pointer none) 1 8 Yba.underlying61 hip zp0 zp1 zp2 rfl (by decide) _ _ _ rfl (HR.out.1.alloc _) ⟨W.heap.size, 0, none⟩ 1 1 [.pointer p] rfl rfl (cell_one_new _ _ _) (by simp [Value.oneCell']) (by unfold maxLen; omega) (by omega) (by simp; omega) ?_; intro vg' w1 hown1 hg1 _; obtain ⟨g1, cp1, rfl⟩ := ownsRow_succ hown1; obtain ⟨hc1, hf1, hc2, hf2, hz1, HL2, H1⟩ := log_g hlg' hls' hne hsz HB.out.1 HB.out.2 HR.out.1 HR.out.2 hg1 hown1 HL.out hBl hlg)
    | (at_builtin; refine wpList_append_own _ rfl (.tmp 12) (.tmp 14) 65 rfl n 3 i3 (.int .i64 0) 1 8 Yba.underlying65 hi3 z30 z31 z32 rfl (by decide) _ _ _ rfl (H1.out.2.1.alloc _) ⟨w1.heap.size, 0, none⟩ 1 1 [.int .i64 i] rfl rfl (by intro j u hj; have q := cell_one_new (w1.setCell ⟨Bg, 0, none⟩ (.slice (some ⟨g1, 0, none⟩) (k + 1) cp1)) (.int .i64 i) 3; rw [set_cell_size] at q; exact q j u hj) (by simp [Value.oneCell']) (by unfold maxLen; omega) (by omega) (by simp [set_cell_size]; omega) ?_; intro vs' w2 hown2 hg2 _; obtain ⟨g2, cp2, rfl⟩ := ownsRow_succ hown2; obtain ⟨hc3, hf3, hc4, hc5, H2⟩ := log_s (lim := lim) hlg' hls' hne (by rw [set_cell_size]; exact hz1) H1.out.2.2.1 H1.out.2.2.2.1 H1.out.1 H1.out.2.1 hg2 hown2 HL2.out hBl hls))
  go_ret
  exact ⟨rfl, H2.out.1, H1.out.2.2.2.2.trans H2.out.2⟩
end Go.Proofs.Ybulkeaqa
