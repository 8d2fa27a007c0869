/- S6357B: Map.move, behind its loop. -/
import Derived.Test.YbulkeaqaBInv
import Derived.Deep.RegionHeld3
namespace Go.Proofs.Ybulkeaqa
open Go.RowKit Go.Shelf
set_option linter.unusedSimpArgs false
attribute [local go_sem] Oper.semAt_some

noncomputable def dropSeq : Nat → Code → Code
  | 0, c => c
  | k + 1, .seq _ b => dropSeq k b
  | _, c => c
noncomputable def bodyOf (f : Func) : Code := f.body.getD .skip

/-- A moved bucket's cells, and the old row with bucket i moved. -/
def mvc (k : Nat) : Value := if k = 0 then .int .u8 1 else bcell [] (.pointer none) 0 k
def mvF (Fo : Nat → Value) (i : Nat) : Nat → Value := fun k => if i * 25 ≤ k ∧ k < i * 25 + 25 then mvc (k - i * 25) else Fo k
/-- From 'next' on, all that is moved is passed. -/
structure Swept (mv : Nat → Bool) (oldN next nx : Nat) : Prop where
  le : next ≤ nx
  le2 : nx ≤ oldN
  all : ∀ j, next ≤ j → j < nx → mv j = true
  stop : nx < oldN → mv nx = false
/-- The map's cells when the old table is let go. -/
def mapE (Bc Bn newN next len ovc mig : Nat) (k : Nat) : Value := (#[.func (.func 6) #[] #[.pointer (some ⟨Bc, 0, none⟩)], .func (.func 7) #[] #[], .int .i64 newN, .slice (some ⟨Bn, 0, none⟩) newN newN, .slice none 0 0, .int .i64 0, .int .i64 0, .slice none 0 0, .slice none 0 0, .int .i64 0, .int .i64 next, .int .i64 1, .int .i64 len, .int .i64 0, .int .i64 ovc, .int .u64 mig, .int .i64 3, .int .u32 0] : Array Value).getD k undef
def mapN (Bc Bn Bo newN oldN next len ovc mig : Nat) : Nat → Value := if next = oldN then mapE Bc Bn newN next len ovc mig else mapF Bc Bn Bo newN oldN next len ovc mig

def zeF (Fo : Nat → Value) (i : Nat) : Nat → Value := fun k => if i * 25 ≤ k ∧ k < i * 25 + 25 then bcell [] (.pointer none) 0 (k - i * 25) else Fo k
theorem z25_at {j : Nat} (h : j < 25) : z25.toList[j]? = some (bcell [] (.pointer none) 0 j) := by
  rcases (show j = 0 ∨ j = 1 ∨ j = 2 ∨ j = 3 ∨ j = 4 ∨ j = 5 ∨ j = 6 ∨ j = 7 ∨ j = 8 ∨ j = 9 ∨ j = 10 ∨ j = 11 ∨ j = 12 ∨ j = 13 ∨ j = 14 ∨ j = 15 ∨ j = 16 ∨ j = 17 ∨ j = 18 ∨ j = 19 ∨ j = 20 ∨ j = 21 ∨ j = 22 ∨ j = 23 ∨ j = 24 by omega) with rfl | rfl | rfl | rfl | rfl | rfl | rfl | rfl | rfl | rfl | rfl | rfl | rfl | rfl | rfl | rfl | rfl | rfl | rfl | rfl | rfl | rfl | rfl | rfl | rfl <;> rfl
theorem zeF_eq (Fo : Nat → Value) (i k : Nat) : updL Fo (i * 25) z25.toList k = zeF Fo i k := by
  unfold zeF
  by_cases h : i * 25 ≤ k ∧ k < i * 25 + 25
  · rw [if_pos h]
    have := updL_in z25.toList Fo (i * 25) (k - i * 25) _ (z25_at (by omega))
    rwa [show i * 25 + (k - i * 25) = k by omega] at this
  · rw [if_neg h, updL_out _ _ _ _ (by show k < i * 25 ∨ i * 25 + 25 ≤ k; omega)]
theorem mvF_eq (Fo : Nat → Value) (i k : Nat) : upd (zeF Fo i) (i * 25) (.int .u8 1) k = mvF Fo i k := by
  unfold upd mvF mvc zeF
  by_cases h : k = i * 25
  · subst h; rw [if_pos rfl, if_pos (by omega), if_pos (by omega)]
  · rw [if_neg h]
    by_cases h2 : i * 25 ≤ k ∧ k < i * 25 + 25
    · rw [if_pos h2, if_pos h2, if_neg (by omega)]
    · rw [if_neg h2, if_neg h2]
/-- The map's cells, one of them set. -/
theorem mapF_mig (Bc Bn Bo newN oldN next len ovc mig v : Nat) (k : Nat) (hk : k < 18) : upd (mapF Bc Bn Bo newN oldN next len ovc mig) 15 (.int .u64 v) k = mapF Bc Bn Bo newN oldN next len ovc v k := by
  rcases (show k = 0 ∨ k = 1 ∨ k = 2 ∨ k = 3 ∨ k = 4 ∨ k = 5 ∨ k = 6 ∨ k = 7 ∨ k = 8 ∨ k = 9 ∨ k = 10 ∨ k = 11 ∨ k = 12 ∨ k = 13 ∨ k = 14 ∨ k = 15 ∨ k = 16 ∨ k = 17 by omega) with rfl | rfl | rfl | rfl | rfl | rfl | rfl | rfl | rfl | rfl | rfl | rfl | rfl | rfl | rfl | rfl | rfl | rfl <;> rfl
theorem mapF_next (Bc Bn Bo newN oldN next len ovc mig v : Nat) (k : Nat) (hk : k < 18) : upd (mapF Bc Bn Bo newN oldN next len ovc mig) 10 (.int .i64 v) k = mapF Bc Bn Bo newN oldN v len ovc mig k := by
  rcases (show k = 0 ∨ k = 1 ∨ k = 2 ∨ k = 3 ∨ k = 4 ∨ k = 5 ∨ k = 6 ∨ k = 7 ∨ k = 8 ∨ k = 9 ∨ k = 10 ∨ k = 11 ∨ k = 12 ∨ k = 13 ∨ k = 14 ∨ k = 15 ∨ k = 16 ∨ k = 17 by omega) with rfl | rfl | rfl | rfl | rfl | rfl | rfl | rfl | rfl | rfl | rfl | rfl | rfl | rfl | rfl | rfl | rfl | rfl <;> rfl
theorem mapF_end (Bc Bn Bo newN oldN next len ovc mig : Nat) (k : Nat) (hk : k < 18) : upd (upd (upd (upd (mapF Bc Bn Bo newN oldN next len ovc mig) 6 (.int .i64 0)) 7 (.slice none 0 0)) 8 (.slice none 0 0)) 9 (.int .i64 0) k = mapE Bc Bn newN next len ovc mig k := by
  rcases (show k = 0 ∨ k = 1 ∨ k = 2 ∨ k = 3 ∨ k = 4 ∨ k = 5 ∨ k = 6 ∨ k = 7 ∨ k = 8 ∨ k = 9 ∨ k = 10 ∨ k = 11 ∨ k = 12 ∨ k = 13 ∨ k = 14 ∨ k = 15 ∨ k = 16 ∨ k = 17 by omega) with rfl | rfl | rfl | rfl | rfl | rfl | rfl | rfl | rfl | rfl | rfl | rfl | rfl | rfl | rfl | rfl | rfl | rfl <;> rfl

theorem Row.putObj {w : World} {b N D : Nat} {t : TypeId} {F : Nat → Value} (h : Row w b N t F) (hD : D ≠ b) {o : Obj} : Row (w.putObj D o) b N t F := (World.putObj_heap_other (Ne.symm hD)).trans h
theorem Stay.putObj {n D : Nat} {S : Nat → Prop} {w w' : World} (h : Stay n S w w') (hS : n ≤ D ∨ S D) {o : Obj} : Stay n S w (w'.putObj D o) :=
  ⟨h.os, h.tape, h.output, by simp only [World.putObj, Array.size_setIfInBounds]; exact h.size, fun b hb hs => (World.putObj_heap_other (fun e => by subst e; rcases hS with q | q; exact absurd q (by omega); exact hs q)).trans (h.block b hb hs)⟩
theorem tag_ne {t : Nat} (h : ¬ t = 1) : ((t : Int) == 1) = false := by simp; omega
theorem mvF_tag {Fo : Nat → Value} {tgo : Nat → Nat} {i n oldN : Nat} (h : n < oldN) (ht : ∀ j, j < oldN → Fo (j * 25) = .int .u8 (tgo j)) (hm : (decide (n = i) || (tgo n == 1)) = true) : mvF Fo i (n * 25) = .int .u8 (1 : Nat) := by
  unfold mvF mvc
  by_cases e : n = i
  · subst e; rw [if_pos (by omega), if_pos (by omega)]; rfl
  · rw [if_neg (by omega), ht n h]
    simp [e] at hm
    rw [hm]
theorem mvF_tag2 {Fo : Nat → Value} {tgo : Nat → Nat} {i n oldN : Nat} (h : n < oldN) (ht : ∀ j, j < oldN → Fo (j * 25) = .int .u8 (tgo j)) (hm : ¬ (decide (n = i) || (tgo n == 1)) = true) : mvF Fo i (n * 25) = .int .u8 (tgo n) ∧ ¬ tgo n = 1 := by
  unfold mvF
  simp at hm
  rw [if_neg (by omega), ht n h]
  exact ⟨rfl, hm.2⟩

set_option maxHeartbeats 2000000 in
set_option maxRecDepth 100000 in
theorem move_tail {Bx Bm Bc Bn Bo newN oldN next len ovc mig i D : Nat} {W : World} {Fo : Nat → Value} {tgo : Nat → Nat} {x0 x1 x3 x5 x6 x7 x8 x9 x10 x11 x12 x13 x14 x15 x16 x17 x18 x19 x20 x21 x22 x23 x24 x25 x26 x27 x28 x29 x30 x31 x32 x33 x34 x35 x36 x37 x38 x39 x40 x41 x42 x43 x44 x45 x46 x47 x48 x49 x50 x51 x52 x53 x54 x55 x56 x57 x58 x59 x60 x61 x62 x63 x64 x65 x66 x67 x68 x69 x70 x71 x72 x73 x74 x75 x76 x77 x78 x79 x80 x81 x82 x83 x84 x85 x86 x87 x88 x89 x90 x91 x92 x93 x94 x95 x96 x97 x98 x99 x100 x101 x102 x103 x104 x105 x106 x107 x108 x109 x110 x111 x112 x113 x114 x115 x116 x117 x118 x119 x120 x121 x122 x123 x124 x125 x126 x127 x128 x129 x130 x131 x132 x133 x134 x135 x136 x137 x138 x139 x140 x141 x142 x143 x144 x145 x146 x147 x148 x149 x150 x151 x152 x153 x154 x155 x156 x157 x158 : Value}
    (hi : i < oldN) (ho : oldN ≤ 100) (hnx : next ≤ oldN) (hM : Row W Bm 18 53 (mapF Bc Bn Bo newN oldN next len ovc mig)) (hO : Row W Bo (oldN * 25) 39 Fo) (hx : W.cell? ⟨Bx, 0, none⟩ = some (.pointer (some ⟨Bm, 0, none⟩))) (hmig : mig ≤ 1000) (htg : ∀ j, j < oldN → Fo (j * 25) = .int .u8 (tgo j)) (hd1 : Bm ≠ Bo) (hd2 : Bx ≠ Bm) (hd3 : Bx ≠ Bo) (hdf : W.heap[D]? = some (.deferred (some []))) {R : Ending → World → Prop} (hR : ∀ w', (∃ nx, Swept (fun j => decide (j = i) || (tgo j == 1)) oldN next nx ∧ Row w' Bm 18 53 (mapN Bc Bn Bo newN oldN nx len ovc (mig + 1)) ∧ Row w' Bo (oldN * 25) 39 (mvF Fo i) ∧ Stay W.heap.size (fun b => b = Bm ∨ b = Bo ∨ b = D) W w') → R (.returned (.tuple #[])) w') :
    Code.wp Yba.prog (dropSeq 6 (bodyOf Yba.f17)) (bodyPostM Fence.wide 8 Yba.prog Yba.f17 R)
      { tmps := #[x0, x1, .pointer (some ⟨Bx, 0, none⟩), x3, .pointer (some ⟨Bo, i * 25, none⟩), x5, x6, x7, x8, x9, x10, x11, x12, x13, x14, x15, x16, x17, x18, x19, x20, x21, x22, x23, x24, x25, x26, x27, x28, x29, x30, x31, x32, x33, x34, x35, x36, x37, x38, x39, x40, x41, x42, x43, x44, x45, x46, x47, x48, x49, x50, x51, x52, x53, x54, x55, x56, x57, x58, x59, x60, x61, x62, x63, x64, x65, x66, x67, x68, x69, x70, x71, x72, x73, x74, x75, x76, x77, x78, x79, x80, x81, x82, x83, x84, x85, x86, x87, x88, x89, x90, x91, x92, x93, x94, x95, x96, x97, x98, x99, x100, x101, x102, x103, x104, x105, x106, x107, x108, x109, x110, x111, x112, x113, x114, x115, x116, x117, x118, x119, x120, x121, x122, x123, x124, x125, x126, x127, x128, x129, x130, x131, x132, x133, x134, x135, x136, x137, x138, x139, x140, x141, x142, x143, x144, x145, x146, x147, x148, x149, x150, x151, x152, x153, x154, x155, x156, x157, x158], defers := [{ target := .collected D, args := #[] }] } W := by
  have hDm : D ≠ Bm := fun e => by
    subst e
    have h9 : W.heap[D]? = some (.cells (rowA 18 (mapF Bc Bn Bo newN oldN next len ovc mig)) 53 (0, 0)) := hM
    rw [h9] at hdf; cases hdf
  have hDo : D ≠ Bo := fun e => by
    subst e
    have h9 : W.heap[D]? = some (.cells (rowA (oldN * 25) Fo) 39 (0, 0)) := hO
    rw [h9] at hdf; cases hdf
  have HRR : Hid (∀ w', (∃ nx, Swept (fun j => decide (j = i) || (tgo j == 1)) oldN next nx ∧ Row w' Bm 18 53 (mapN Bc Bn Bo newN oldN nx len ovc (mig + 1)) ∧ Row w' Bo (oldN * 25) 39 (mvF Fo i) ∧ Stay W.heap.size (fun b => b = Bm ∨ b = Bo ∨ b = D) W w') → R (.returned (.tuple #[])) w') := hR
  clear hR
  have HDF : Hid (W.heap[D]? = some (.deferred (some []))) := hdf
  clear hdf
  conv => arg 2; whnf
  have HM : Hid (Row W Bm 18 53 (mapF Bc Bn Bo newN oldN next len ovc mig)) := hM
  have HO : Hid (Row W Bo (oldN * 25) 39 Fo) := hO
  have hth : W.there Bo (i * 25) 25 := fun k hk => ⟨by rw [hO.cell (by omega)]; rfl, hO.frozen⟩
  clear hM hO
  go_upto_region 14 with (refine wpList_store_mid rfl 39 _ _ rfl Bo (i * 25) z25 rfl rfl hth (by kernel_rfl) (by kernel_rfl) ?_)
  have zl : z25.toList.length = 25 := rfl
  have O1 := HO.out.setCells z25.toList (i * 25)
  have M1 : Row (W.setCells Bo (i * 25) z25.toList) Bm 18 53 (mapF Bc Bn Bo newN oldN next len ovc mig) := HM.out.stay (n := W.heap.size) (S := fun b => b = Bo) (Stay.setCells (S := fun b => b = Bo) (.inr rfl) _ _ _ (Stay.refl _ _ W)) HM.out.lt hd1
  have S1 : Stay W.heap.size (fun b => b = Bm ∨ b = Bo ∨ b = D) W (W.setCells Bo (i * 25) z25.toList) := Stay.setCells (.inr (.inr (.inl rfl))) _ _ _ (Stay.refl _ _ W)
  have X1 : (W.setCells Bo (i * 25) z25.toList).cell? ⟨Bx, 0, none⟩ = some (.pointer (some ⟨Bm, 0, none⟩)) := (World.cell?_setCells_out Bo _ _ W ⟨Bx, 0, none⟩ (fun e => absurd e hd3)).trans hx
  have Z1 := size_setCells Bo z25.toList (i * 25) W
  have D1 : (W.setCells Bo (i * 25) z25.toList).heap[D]? = some (.deferred (some [])) := ((Stay.setCells (S := fun b => b = Bo) (n := W.heap.size) (.inr rfl) z25.toList (i * 25) W (Stay.refl _ _ W)).block D (Array.getElem?_eq_some_iff.1 HDF.out).1 hDo).trans HDF.out
  have O1' : Row (W.setCells Bo (i * 25) z25.toList) Bo (oldN * 25) 39 (zeF Fo i) := O1.congr (fun k _ => zeF_eq Fo i k)
  clear O1
  generalize hW1 : W.setCells Bo (i * 25) z25.toList = W1 at O1' M1 S1 X1 Z1 D1 ⊢
  have o1 : W1.cell? ⟨Bo, i * 25, none⟩ = some (.int .u8 0) := by
    have := O1'.cell (k := i * 25) (by omega)
    rw [this]; unfold zeF; rw [if_pos (by omega)]; simp [bcell, tg]
  have f1 : W1.frozen? ⟨Bo, i * 25, none⟩ = false := O1'.frozen
  have H1 : Hid (Row W1 Bo (oldN * 25) 39 (zeF Fo i) ∧ Row W1 Bm 18 53 (mapF Bc Bn Bo newN oldN next len ovc mig) ∧ Stay W.heap.size (fun b => b = Bm ∨ b = Bo ∨ b = D) W W1 ∧ W1.heap.size = W.heap.size ∧ W1.heap[D]? = some (.deferred (some []))) := ⟨O1', M1, S1, Z1, D1⟩
  clear O1' M1 S1 Z1 D1 hW1 hth hx
  go_upto_region 15 with (fail)
  have O2 : Row (W1.setCell ⟨Bo, i * 25, none⟩ (.int .u8 1)) Bo (oldN * 25) 39 (mvF Fo i) := (H1.out.1.set _).congr (fun k _ => mvF_eq Fo i k)
  have M2 := H1.out.2.1.other (k := i * 25) (.int .u8 1) hd1
  have S2 := H1.out.2.2.1.set (o := i * 25) (B := Bo) (.int .u8 1) (.inr (.inr (.inl rfl)))
  have X2 : (W1.setCell ⟨Bo, i * 25, none⟩ (.int .u8 1)).cell? ⟨Bx, 0, none⟩ = some (.pointer (some ⟨Bm, 0, none⟩)) := (World.cell?_of_block (a := ⟨_, _, none⟩) (Below.heap_setCell W1 _ _ _ hd3)).trans X1
  have Z2 : (W1.setCell ⟨Bo, i * 25, none⟩ (.int .u8 1)).heap.size = W.heap.size := by have := H1.out.2.2.2.1; simp [World.setCell, this]
  have D2 : (W1.setCell ⟨Bo, i * 25, none⟩ (.int .u8 1)).heap[D]? = some (.deferred (some [])) := (Below.heap_setCell W1 _ _ _ hDo).trans H1.out.2.2.2.2
  generalize W1.setCell ⟨Bo, i * 25, none⟩ (.int .u8 1) = W2 at O2 M2 S2 X2 Z2 D2 ⊢
  have m15 : W2.cell? ⟨Bm, 15, none⟩ = some (.int .u64 mig) := M2.cell (by omega)
  have f15 : W2.frozen? ⟨Bm, 15, none⟩ = false := M2.frozen
  have H2 : Hid (Row W2 Bo (oldN * 25) 39 (mvF Fo i) ∧ Row W2 Bm 18 53 (mapF Bc Bn Bo newN oldN next len ovc mig) ∧ Stay W.heap.size (fun b => b = Bm ∨ b = Bo ∨ b = D) W W2 ∧ W2.heap.size = W.heap.size ∧ W2.heap[D]? = some (.deferred (some []))) := ⟨O2, M2, S2, Z2, D2⟩
  clear O2 M2 S2 Z2 D2 H1 X1 o1 f1
  go_wp2_with fail
  go_loopg [] (oldN - next) (fun g wr => ∃ n : Nat, n + g = oldN ∧ next ≤ n ∧ (∀ j, next ≤ j → j < n → (decide (j = i) || (tgo j == 1)) = true) ∧ Row wr Bo (oldN * 25) 39 (mvF Fo i) ∧ Row wr Bm 18 53 (mapF Bc Bn Bo newN oldN n len ovc (mig + 1)) ∧ Stay W.heap.size (fun b => b = Bm ∨ b = Bo ∨ b = D) W wr ∧ wr.heap.size = W.heap.size ∧ wr.heap[D]? = some (.deferred (some [])) ∧ wr.cell? ⟨Bx, 0, none⟩ = some (.pointer (some ⟨Bm, 0, none⟩)))
  case atStart =>
    obtain ⟨O2, M2, S2, Z2, D2⟩ := H2.out
    refine ⟨next, by omega, Nat.le_refl _, fun j h1 h2 => by omega, O2.other _ (Ne.symm hd1), (M2.set _).congr (fun k hk => ?_), S2.set _ (.inr (.inl rfl)), by simp [World.setCell, Z2], (Below.heap_setCell W2 _ _ _ hDm).trans D2, (World.cell?_of_block (a := ⟨_, _, none⟩) (Below.heap_setCell W2 _ _ _ hd2)).trans X2⟩
    exact mapF_mig _ _ _ _ _ _ _ _ _ (mig + 1) k hk
  case round =>
    obtain ⟨n, hng, hn0, hall, hO, hM, hS, hZ, hD, hX⟩ := hrel
    have H3 : Hid (n + gk = oldN ∧ next ≤ n ∧ (∀ j, next ≤ j → j < n → (decide (j = i) || (tgo j == 1)) = true) ∧ Row wr Bo (oldN * 25) 39 (mvF Fo i) ∧ Row wr Bm 18 53 (mapF Bc Bn Bo newN oldN n len ovc (mig + 1)) ∧ Stay W.heap.size (fun b => b = Bm ∨ b = Bo ∨ b = D) W wr ∧ wr.heap.size = W.heap.size ∧ wr.heap[D]? = some (.deferred (some []))) := ⟨hng, hn0, hall, hO, hM, hS, hZ, hD⟩
    have hnl : n ≤ oldN := by omega
    have HL : Hid (∀ u, Calls Yba.prog 15 #[.pointer (some ⟨Bm, 6, none⟩)] (wr.drewN u) fun e w' => e = .returned (.int .i64 oldN) ∧ wr.drewN u = w') := fun u => len_any Bm 6 oldN _ (tabO (hM.drewN u)).n0
    have HI : Hid (∀ u, Calls Yba.prog 19 #[.pointer (some ⟨Bm, 6, none⟩), .int .i64 n] (wr.drewN u) fun e w' => e = .returned (.int .i64 n) ∧ wr.drewN u = w') := fun u => indexAt_any Bm 6 oldN Bo n _ (tabO (hM.drewN u))
    have m10 : wr.cell? ⟨Bm, 10, none⟩ = some (.int .i64 n) := hM.cell (by omega)
    have f10 : wr.frozen? ⟨Bm, 10, none⟩ = false := hM.frozen
    clear hng hn0 hall hO hM hS hZ hD H2 X2 m15 f15
    by_cases hlt : n < oldN
    · have hlb : decide ((n : Int) < (oldN : Int)) = true := decide_eq_true (by omega)
      by_cases hmv : (decide (n = i) || (tgo n == 1)) = true
      · have HV : Hid (∀ u, Calls Yba.prog 16 #[.pointer (some ⟨Bm, 6, none⟩), .int .i64 n] (wr.drewN u) fun e w' => e = .returned (.bool true) ∧ wr.drewN u = w') := fun u => (moved_any Bm 6 oldN Bo n 1 (wr.drewN u) (tabO (H3.out.2.2.2.2.1.drewN u)) hlt (by omega) (((H3.out.2.2.2.1.drewN u).cell (by omega)).trans (congrArg some (mvF_tag hlt htg hmv)))).mono (fun e w' h => ⟨h.1, h.2⟩)
        have HMV : Hid _ := hmv
        clear hmv
        go_upto_region 16 with (fail)
        go_quiet (first
          | (go_at_call 15; exact Calls.quiet_of_same (Calls.mono (HL.out _) (fun e w' h => ⟨h.1, h.2.symm⟩)))
          | (go_at_call 19; exact Calls.quiet_of_same (Calls.mono (HI.out _) (fun e w' h => ⟨h.1, h.2.symm⟩)))
          | (go_at_call 16; exact Calls.quiet_of_same (Calls.mono (HV.out _) (fun e w' h => ⟨h.1, h.2.symm⟩))))
        go_upto_region 18 with (fail)
        obtain ⟨hng, hn0, hall, hO, hM, hS, hZ, hD⟩ := H3.out
        have O4 := (hO.drewN nq).other (k := 10) (.int .i64 ((n : Int) + 1)) (Ne.symm hd1)
        have M4 : Row ((wr.drewN nq).setCell ⟨Bm, 10, none⟩ (.int .i64 ((n : Int) + 1))) Bm 18 53 (mapF Bc Bn Bo newN oldN (n + 1) len ovc (mig + 1)) := ((hM.drewN nq).set _).congr (fun k hk => mapF_next _ _ _ _ _ _ _ _ _ (n + 1) k hk)
        have S4 := (hS.drewN nq).set (B := Bm) (o := 10) (.int .i64 ((n : Int) + 1)) (.inr (.inl rfl))
        have Z4 : ((wr.drewN nq).setCell ⟨Bm, 10, none⟩ (.int .i64 ((n : Int) + 1))).heap.size = W.heap.size := by
          have : ((wr.drewN nq).setCell ⟨Bm, 10, none⟩ (.int .i64 ((n : Int) + 1))).heap.size = wr.heap.size := by simp [World.setCell]
          rw [this, hZ]
        have D4 : ((wr.drewN nq).setCell ⟨Bm, 10, none⟩ (.int .i64 ((n : Int) + 1))).heap[D]? = some (.deferred (some [])) := (Below.heap_setCell (wr.drewN nq) _ _ _ hDm).trans hD
        have X4 : ((wr.drewN nq).setCell ⟨Bm, 10, none⟩ (.int .i64 ((n : Int) + 1))).cell? ⟨Bx, 0, none⟩ = some (.pointer (some ⟨Bm, 0, none⟩)) := (World.cell?_of_block (a := ⟨_, _, none⟩) (Below.heap_setCell (wr.drewN nq) _ _ _ hd2)).trans hX
        generalize (wr.drewN nq).setCell ⟨Bm, 10, none⟩ (.int .i64 ((n : Int) + 1)) = V at O4 M4 S4 Z4 D4 X4 ⊢
        have v10 : V.cell? ⟨Bm, 10, none⟩ = some (.int .i64 ((n : Int) + 1)) := M4.cell (by omega)
        have HRL : Hid (∀ u, Calls Yba.prog 28 #[.pointer (some ⟨Bm, 6, none⟩), .int .i64 ((n : Int) + 1)] (V.drewN u) fun e w' => e = .returned (.tuple #[]) ∧ V.drewN u = w') := fun u => release_any Bm 6 oldN Bo (n + 1) _ (tabO (M4.drewN u))
        have H4 : Hid (Row V Bo (oldN * 25) 39 (mvF Fo i) ∧ Row V Bm 18 53 (mapF Bc Bn Bo newN oldN (n + 1) len ovc (mig + 1)) ∧ Stay W.heap.size (fun b => b = Bm ∨ b = Bo ∨ b = D) W V ∧ V.heap.size = W.heap.size ∧ V.heap[D]? = some (.deferred (some []))) := ⟨O4, M4, S4, Z4, D4⟩
        clear O4 M4 S4 Z4 D4 hng hn0 hall hO hM hS hZ hD m10 f10 hX HL HI HV
        go_quiet ((go_at_call 28; exact Calls.quiet_of_same (Calls.mono (HRL.out _) (fun e w' h => ⟨h.1, h.2.symm⟩))))
        go_wp2_with fail
        obtain ⟨hng, hn0, hall, _⟩ := H3.out
        obtain ⟨O4, M4, S4, Z4, D4⟩ := H4.out
        go_roundg (gk - 1)
        case measure => omega
        case rel =>
          refine ⟨n + 1, by omega, by omega, fun j h1 h2 => ?_, O4.drewN nq, M4.drewN nq, S4.drewN nq, Z4, D4, X4⟩
          by_cases e : j < n
          · exact hall j h1 e
          · have : j = n := by omega
            subst this; exact HMV.out
      · have ht2 := mvF_tag2 hlt htg hmv
        have HV : Hid (∀ u, Calls Yba.prog 16 #[.pointer (some ⟨Bm, 6, none⟩), .int .i64 n] (wr.drewN u) fun e w' => e = .returned (.bool false) ∧ wr.drewN u = w') := fun u => (moved_any Bm 6 oldN Bo n (tgo n) (wr.drewN u) (tabO (H3.out.2.2.2.2.1.drewN u)) hlt (by omega) (((H3.out.2.2.2.1.drewN u).cell (by omega)).trans (congrArg some ht2.1))).mono (fun e w' h => ⟨h.1.trans (by rw [tag_ne ht2.2]), h.2⟩)
        have HMV : Hid _ := hmv
        clear hmv ht2
        have hnb : ((n : Int) == (oldN : Int)) = false := by simp; omega
        go_upto_region 16 with (fail)
        go_quiet (first
          | (go_at_call 15; exact Calls.quiet_of_same (Calls.mono (HL.out _) (fun e w' h => ⟨h.1, h.2.symm⟩)))
          | (go_at_call 19; exact Calls.quiet_of_same (Calls.mono (HI.out _) (fun e w' h => ⟨h.1, h.2.symm⟩)))
          | (go_at_call 16; exact Calls.quiet_of_same (Calls.mono (HV.out _) (fun e w' h => ⟨h.1, h.2.symm⟩))))
        go_upto_region 19 with (fail)
        have H5 : Hid (Row (wr.drewN nq) Bo (oldN * 25) 39 (mvF Fo i) ∧ Row (wr.drewN nq) Bm 18 53 (mapF Bc Bn Bo newN oldN n len ovc (mig + 1)) ∧ Stay W.heap.size (fun b => b = Bm ∨ b = Bo ∨ b = D) W (wr.drewN nq) ∧ (wr.drewN nq).heap[D]? = some (.deferred (some []))) := ⟨H3.out.2.2.2.1.drewN nq, H3.out.2.2.2.2.1.drewN nq, H3.out.2.2.2.2.2.1.drewN nq, H3.out.2.2.2.2.2.2.2⟩
        have X5 : (wr.drewN nq).cell? ⟨Bx, 0, none⟩ = some (.pointer (some ⟨Bm, 0, none⟩)) := hX
        have m5 : (wr.drewN nq).cell? ⟨Bm, 10, none⟩ = some (.int .i64 n) := m10
        generalize wr.drewN nq = V at H5 X5 m5 ⊢
        have HL5 : Hid (∀ u, Calls Yba.prog 15 #[.pointer (some ⟨Bm, 6, none⟩)] (V.drewN u) fun e w' => e = .returned (.int .i64 oldN) ∧ V.drewN u = w') := fun u => len_any Bm 6 oldN _ (tabO (H5.out.2.1.drewN u)).n0
        clear hX m10 f10 HL HI
        go_quiet ((go_at_call 15; exact Calls.quiet_of_same (Calls.mono (HL5.out _) (fun e w' h => ⟨h.1, h.2.symm⟩))))
        go_wp2_with fail
        obtain ⟨hng, hn0, hall, hO, hM, hS, hZ, hD⟩ := H3.out
        refine ⟨by simp, .inl ⟨_, _, rfl, run_takeDeferred H5.out.2.2.2, ?_⟩⟩
        refine ⟨_, results_none rfl _ _ _, HRR.out _ ⟨n, ⟨hn0, hnl, hall, fun _ => by simpa using HMV.out⟩, ?_, (H5.out.1.drewN nq).putObj hDo, (H5.out.2.2.1.drewN nq).putObj (.inr (.inr (.inr rfl)))⟩⟩
        unfold mapN
        rw [if_neg (by omega)]
        exact (H5.out.2.1.drewN nq).putObj hDm
    · have hlb : decide ((n : Int) < (oldN : Int)) = false := decide_eq_false (by omega)
      have hnb : ((n : Int) == (oldN : Int)) = true := by simp; omega
      go_upto_region 16 with (fail)
      go_quiet (first
          | (go_at_call 15; exact Calls.quiet_of_same (Calls.mono (HL.out _) (fun e w' h => ⟨h.1, h.2.symm⟩))))
      go_upto_region 19 with (fail)
      have H5 : Hid (Row (wr.drewN nq) Bo (oldN * 25) 39 (mvF Fo i) ∧ Row (wr.drewN nq) Bm 18 53 (mapF Bc Bn Bo newN oldN n len ovc (mig + 1)) ∧ Stay W.heap.size (fun b => b = Bm ∨ b = Bo ∨ b = D) W (wr.drewN nq) ∧ (wr.drewN nq).heap[D]? = some (.deferred (some []))) := ⟨H3.out.2.2.2.1.drewN nq, H3.out.2.2.2.2.1.drewN nq, H3.out.2.2.2.2.2.1.drewN nq, H3.out.2.2.2.2.2.2.2⟩
      have X5 : (wr.drewN nq).cell? ⟨Bx, 0, none⟩ = some (.pointer (some ⟨Bm, 0, none⟩)) := hX
      have m5 : (wr.drewN nq).cell? ⟨Bm, 10, none⟩ = some (.int .i64 n) := m10
      generalize wr.drewN nq = V at H5 X5 m5 ⊢
      have HL5 : Hid (∀ u, Calls Yba.prog 15 #[.pointer (some ⟨Bm, 6, none⟩)] (V.drewN u) fun e w' => e = .returned (.int .i64 oldN) ∧ V.drewN u = w') := fun u => len_any Bm 6 oldN _ (tabO (H5.out.2.1.drewN u)).n0
      clear hX m10 f10 HL HI
      go_quiet ((go_at_call 15; exact Calls.quiet_of_same (Calls.mono (HL5.out _) (fun e w' h => ⟨h.1, h.2.symm⟩))))
      have M5 := H5.out.2.1.drewN nq
      have hth : (V.drewN nq).there Bm 6 4 := fun k hk => ⟨by rw [M5.cell (by omega)]; rfl, M5.frozen⟩
      go_wp2_with (refine wpList_store_mid rfl 46 _ _ rfl Bm 6 #[.int .i64 0, .slice none 0 0, .slice none 0 0, .int .i64 0] rfl rfl hth (by kernel_rfl) (by kernel_rfl) ?_)
      obtain ⟨hng, hn0, hall, hO, hM, hS, hZ, hD⟩ := H3.out
      have e9 : n = oldN := by omega
      have D5 : ((V.drewN nq).setCells Bm 6 [.int .i64 0, .slice none 0 0, .slice none 0 0, .int .i64 0]).heap[D]? = some (.deferred (some [])) := ((Stay.setCells (S := fun b => b = Bm) (n := (V.drewN nq).heap.size) (.inr rfl) [.int .i64 0, .slice none 0 0, .slice none 0 0, .int .i64 0] 6 (V.drewN nq) (Stay.refl _ _ (V.drewN nq))).block D (Array.getElem?_eq_some_iff.1 (show (V.drewN nq).heap[D]? = _ from H5.out.2.2.2)).1 hDm).trans H5.out.2.2.2
      refine ⟨by simp, .inl ⟨_, _, rfl, run_takeDeferred D5, ?_⟩⟩
      refine ⟨_, results_none rfl _ _ _, HRR.out _ ⟨n, ⟨hn0, hnl, hall, fun h => by omega⟩, ?_, ?_, (Stay.setCells (.inr (.inl rfl)) _ _ _ (H5.out.2.2.1.drewN nq)).putObj (.inr (.inr (.inr rfl)))⟩⟩
      · unfold mapN
        rw [if_pos e9]
        refine Row.putObj ?_ hDm
        exact (Row.setCells _ 6 _ _ (H5.out.2.1.drewN nq)).congr (fun k hk => mapF_end _ _ _ _ _ _ _ _ _ k hk)
      · refine Row.putObj ?_ hDo
        exact ((Stay.setCells (S := fun b => b = Bm) (n := (V.drewN nq).heap.size) (.inr rfl) [.int .i64 0, .slice none 0 0, .slice none 0 0, .int .i64 0] 6 (V.drewN nq) (Stay.refl _ _ (V.drewN nq))).block Bo (H5.out.1.drewN nq).lt (Ne.symm hd1)).trans (H5.out.1.drewN nq)

theorem Fam.cells {w : World} {Bn M : Nat} {F : Nat → Value} {ov : Nat → Nat → Nat} {L : Nat → List Ent} (h : Fam w Bn M F ov L) {b : Nat} (hb : Mine Bn M ov L b) : ∃ a t, w.heap[b]? = some (.cells a t (0, 0)) := by
  rcases hb with rfl | ⟨j, t, hj, hl, rfl⟩
  · exact ⟨_, _, h.row⟩
  · exact ⟨_, _, (h.ch j hj).ovs t hl.1 hl.2⟩
/-- What stands when move is done. -/
theorem after_move {w w4 W w' : World} {Bm Bc Bb Bn Bo M D : Nat} {ovn ov : Nat → Nat → Nat} {L0 L : Nat → List Ent} {F : Nat → Value} (T : Stay w.heap.size (fun _ => False) w w4) (hG : Grow w4 W Bn M ovn L0 (Xs Bm Bc Bb) F ov L) (hb : w.heap.size ≤ Bb) (hmM : ¬ Mine Bn M ovn L0 Bm) (hmO : ¬ Mine Bn M ovn L0 Bo) (hBm : Bm < w.heap.size) (hBo : Bo < w.heap.size) (hD : w4.heap.size ≤ D) (hdf : W.heap[D]? = some (.deferred (some []))) (hS : Stay W.heap.size (fun b => b = Bm ∨ b = Bo ∨ b = D) W w') :
    Fam w' Bn M F ov L ∧ (∀ j t, j < M → live L j t → (live L0 j t ∧ ov j t = ovn j t) ∨ w.heap.size ≤ ov j t) ∧ Stay w.heap.size (fun b => Mine Bn M ovn L0 b ∨ b = Bm ∨ b = Bc ∨ b = Bo) w w' := by
  have h1 := T.size
  have h2 := hG.stay.size
  refine ⟨hG.fam.on fun b hm => hS.block b (hG.fam.lt hm) ?_, fun j t hj hl => ?_, ⟨hS.os.trans (hG.stay.os.trans T.os), hS.tape.trans (hG.stay.tape.trans T.tape), hS.output.trans (hG.stay.output.trans T.output), by have := hS.size; omega, fun b hlt hs => (hS.block b (by omega) ?_).trans ((hG.stay.block b (by omega) ?_).trans (T.block b hlt id))⟩⟩
  · rintro (e | e | e)
    · subst e; exact hmM (hG.mine (by omega) hm)
    · subst e; exact hmO (hG.mine (by omega) hm)
    · subst e
      obtain ⟨a, t, he⟩ := hG.fam.cells hm
      rw [he] at hdf; cases hdf
  · rcases hG.from_ j t hj hl with h | h
    · exact .inl h
    · exact .inr (by omega)
  · rintro (e | e | e)
    · exact hs (.inr (.inl e))
    · exact hs (.inr (.inr (.inr e)))
    · omega
  · rintro (e | e | e | e)
    · exact hs (.inl e)
    · exact hs (.inr (.inl e))
    · exact hs (.inr (.inr (.inl e)))
    · omega
end Go.Proofs.Ybulkeaqa
