/- LawS6357AWhole: makeTable, place, at. -/
import Derived.Test.YbulkeaqaDoorCalls
import Derived.Deep.RegionWith
import Derived.Deep.MidRow
namespace Go.Proofs.YbulkeaqaDoor
open Go.RowKit
set_option linter.unusedSimpArgs false

theorem pos_lt {e i : Nat} (he : 1 ≤ e) (hi : i < 2 ^ e) : pos (2 ^ e) (2 ^ (e - 1)) i < 2 ^ e := by
  have hp : (2 : Nat) ^ e = 2 * 2 ^ (e - 1) := by
    obtain ⟨d, rfl⟩ : ∃ d, e = d + 1 := ⟨e - 1, by omega⟩
    rw [Nat.pow_succ]; simp; omega
  rw [hp] at hi ⊢
  generalize (2 : Nat) ^ (e - 1) = h at *
  unfold pos
  split
  · obtain ⟨r, rfl⟩ : ∃ r, i = h + r := ⟨i - h, by omega⟩
    have e2 : 2 * (h + r) = 2 * h + 2 * r := by omega
    rw [e2, Nat.add_mod_left, Nat.mod_eq_of_lt (by omega)]
    omega
  · rw [Nat.mod_eq_of_lt (by omega)]; omega

theorem place_any (T e i : Nat) (w : World) (he : 1 ≤ e) (he2 : e ≤ 20) (hi : i < 2 ^ e) (hn : w.cell? ⟨T, 0, none⟩ = some (.int .i64 ((2 : Int) ^ e))) (hr : w.cell? ⟨T, 3, none⟩ = some (.int .i64 ((e - 1 : Nat) : Int))) :
    Calls Ybad.prog 9 #[.pointer (some ⟨T, 0, none⟩), .int .i64 i] w fun x w' => x = .returned (.int .i64 (pos (2 ^ e) (2 ^ (e - 1)) i : Nat)) ∧ ∃ q, w' = w.drewN q := by
  have h20 : (2 : Nat) ^ e ≤ 2 ^ 20 := Nat.pow_le_pow_right (by decide) he2
  have hei : ((2 : Int) ^ e) = ((2 ^ e : Nat) : Int) := by simp
  have hp1 : 0 < 2 ^ e := Nat.two_pow_pos e
  have hw : wrap64 ((2 : Int) ^ e - 1) = (2 : Int) ^ e - 1 := by rw [hei]; unfold wrap64; omega
  have hw2 : wrap64 ((i : Int) * 2) = (i : Int) * 2 := by unfold wrap64; omega
  have hb : bits .and .i64 (bits .or .i64 (wrap64 ((i : Int) * 2)) ((i : Int) / 2 ^ (e - 1))) (wrap64 ((2 : Int) ^ e - 1)) = (pos (2 ^ e) (2 ^ (e - 1)) i : Nat) := by
    rw [hw, hw2]
    exact place_bits e i he he2 hi
  have HB : Hid _ := hb
  clear hb hw hw2 hei h20 hp1
  go_enter Ybad.func9, Ybad.ntmps9
  go_wp2_with fail
  go_quiet (fail)
  go_wp2_with fail
  go_ret
  exact ⟨by rw [HB.out]; rfl, nq, rfl⟩

theorem make_small (n : Nat) (w : World) (hn : n ≤ 512) :
    Calls Ybad.prog 4 #[.int .i64 n] w fun e w' => ∃ b, e = .returned (.agg #[.int .i64 n, .slice (some ⟨b, 0, none⟩) n n, .slice none 0 0, .int .i64 0]) ∧ w'.heap[b]? = some (.cells (madeCells zb (n * 25)) 32 (0, 0)) ∧ w.heap.size ≤ b ∧ b < w'.heap.size ∧ Below w.heap.size w w' := by
  obtain ⟨i, hi, z0, z1, z2⟩ := info_parts info32
  have hmk := fun w => run_make (P := Ybad.prog) w 23 32 i (.agg zb) Ybad.underlying23 hi z0 .i64 .i64 n n (by omega) (by omega) (by rw [z2]; omega) (by omega)
  rw [z1] at hmk
  have hd : decide ((n : Int) ≤ 512) = true := by simp; omega
  go_enter Ybad.func4, Ybad.ntmps4
  go_wp2
  refine bodyPost_ret (results_cell_row rfl _ _ w.heap.size 26 #[.int .i64 n, .slice (some ⟨w.heap.size + 1, 0, none⟩) n n, .slice none 0 0, .int .i64 0] (0, 0) _ rfl ?_ Ybad.underlying26 rfl (by kernel_rfl)) rfl ?_
  · rw [(MapKept.heap_alloc _ _).2 _ (by simp), (MapKept.heap_alloc _ _).1]
  · refine ⟨w.heap.size + 1, rfl, ?_, by omega, by simp, ((Below.refl _ w).alloc (Nat.le_refl _) _).alloc (by simp) _⟩
    have := (MapKept.heap_alloc (w.alloc (.cells #[.int .i64 n, .slice (some ⟨w.heap.size + 1, 0, none⟩) n n, .slice none 0 0, .int .i64 0] 26)) (.cells (madeCells zb (n * 25)) 32)).1
    rwa [World.size_alloc] at this

theorem make_big (n m r : Nat) (w : World) (hn : 512 < n) (hn2 : n ≤ 16384) (hq : (n : Int) / 512 = m) (hr : r ≤ 20) (h1 : 1 < w.heap.size)
    (hz : ∀ W, (∀ o, W.cell? ⟨1, o, none⟩ = w.cell? ⟨1, o, none⟩) → Calls Ybad.prog 8 #[.int .u64 n] W fun e W' => e = .returned (.int .i64 ((r : Int) + 1)) ∧ W = W') :
    Calls Ybad.prog 4 #[.int .i64 n] w fun e w' => ∃ b, e = .returned (.agg #[.int .i64 n, .slice none 0 0, .slice (some ⟨b, 0, none⟩) m m, .int .i64 r]) ∧ w'.heap[b]? = some (.cells (madeCells #[.pointer none] m) 28 (0, 0)) ∧ w.heap.size ≤ b ∧ b < w'.heap.size ∧ Below w.heap.size w w' := by
  have hmk := run_make_row' (P := Ybad.prog) 24 28 (.pointer none) 8 Ybad.underlying24 info28 rfl .i64 .i64 m (by omega) (by omega)
  have hd : decide ((n : Int) ≤ 512) = false := by simp; omega
  have HZ : Hid _ := hz
  have hwr : IntKind.i64.wrap (r : Int) = r := by rw [IntKind.wrap_i64]; omega
  have hwu : IntKind.u64.wrap (n : Int) = n := by rw [IntKind.wrap_u64]; omega
  clear hz
  go_enter Ybad.func4, Ybad.ntmps4
  go_wp2_with fail
  go_region_with (go_at_call 8; refine (HZ.out _ (by intro o; simp [World.cell?_alloc_past, h1, Nat.lt_succ_of_lt])).mono ?_; rintro e w' ⟨rfl, rfl⟩)
  all_goals
    go_wp2_with fail
    refine bodyPost_ret (results_cell_row rfl _ _ w.heap.size 26 #[.int .i64 n, .slice none 0 0, .slice (some ⟨w.heap.size + 1, 0, none⟩) m m, .int .i64 r] (0, 0) _ rfl ?_ Ybad.underlying26 rfl (by kernel_rfl)) rfl ?_
    · show ((w.alloc (.cells #[.int .i64 n, .slice none 0 0, .slice (some ⟨w.heap.size + 1, 0, none⟩) m m, .int .i64 r] 26)).alloc (.cells (madeCells #[.pointer none] m) 28)).heap[w.heap.size]? = _
      rw [(MapKept.heap_alloc _ _).2 _ (by simp), (MapKept.heap_alloc _ _).1]
    · have b := ((Below.refl w.heap.size w).alloc (Nat.le_refl _) (.cells #[.int .i64 n, .slice none 0 0, .slice (some ⟨w.heap.size + 1, 0, none⟩) m m, .int .i64 r] 26)).alloc (by simp) (.cells (madeCells #[.pointer none] m) 28)
      refine ⟨w.heap.size + 1, rfl, ?_, by omega, ?_, ⟨b.os, b.tape, b.output, b.size, b.block⟩⟩
      · have := (MapKept.heap_alloc (w.alloc (.cells #[.int .i64 n, .slice none 0 0, .slice (some ⟨w.heap.size + 1, 0, none⟩) m m, .int .i64 r] 26)) (.cells (madeCells #[.pointer none] m) 28)).1
        rw [World.size_alloc] at this
        exact this
      · show w.heap.size + 1 < ((w.alloc (.cells #[.int .i64 n, .slice none 0 0, .slice (some ⟨w.heap.size + 1, 0, none⟩) m m, .int .i64 r] 26)).alloc (.cells (madeCells #[.pointer none] m) 28)).heap.size
        simp

theorem at_small (T b n i : Nat) (w : World) (hi : i < n) (hp : w.cell? ⟨T, 2, none⟩ = some (.slice none 0 0)) (hs : w.cell? ⟨T, 1, none⟩ = some (.slice (some ⟨b, 0, none⟩) n n)) :
    Calls Ybad.prog 6 #[.pointer (some ⟨T, 0, none⟩), .int .i64 i] w fun x w' => x = .returned (.pointer (some ⟨b, i * 25, none⟩)) ∧ w = w' := by
  go_enter Ybad.func6, Ybad.ntmps6
  go_wp2
  go_ret
  exact ⟨by simp, rfl⟩

theorem at_big (T b c m e i : Nat) (w : World) (he : 10 ≤ e) (he2 : e ≤ 14) (hm : m * 512 = 2 ^ e) (hi : i < 2 ^ e) (hn : w.cell? ⟨T, 0, none⟩ = some (.int .i64 ((2 : Int) ^ e))) (hr : w.cell? ⟨T, 3, none⟩ = some (.int .i64 ((e - 1 : Nat) : Int)))
    (hp : w.cell? ⟨T, 2, none⟩ = some (.slice (some ⟨b, 0, none⟩) m m)) (hb : ∀ k, k < m → w.cell? ⟨b, k, none⟩ = some (.pointer (some ⟨c + k, 0, none⟩))) :
    Calls Ybad.prog 6 #[.pointer (some ⟨T, 0, none⟩), .int .i64 i] w fun x w' => x = .returned (.pointer (some ⟨c + pos (2 ^ e) (2 ^ (e - 1)) i / 512, pos (2 ^ e) (2 ^ (e - 1)) i % 512 * 25, none⟩)) ∧ ∃ q, w' = w.drewN q := by
  have HP : Hid _ := place_any T e i w (by omega) (by omega) hi hn hr
  have hlt : pos (2 ^ e) (2 ^ (e - 1)) i < m * 512 := by
    rw [hm]
    exact pos_lt (by omega) hi
  have h14 : (2 : Nat) ^ e ≤ 2 ^ 14 := Nat.pow_le_pow_right (by decide) he2
  generalize hP : pos (2 ^ e) (2 ^ (e - 1)) i = p at *
  have hc := hb (p / 512) (by omega)
  have hand : bits .and .i64 (p : Int) 511 = ((p % 512 : Nat) : Int) := by
    have := bits_mask .i64 62 (by decide) (fun n h0 h1 => by rw [IntKind.wrap_i64]; omega) 9 (by omega) (p : Int) (by omega) (by omega)
    simpa using this
  clear hb
  go_enter Ybad.func6, Ybad.ntmps6
  go_wp2_with (go_at_call 9; refine Calls.mono HP.out ?_; rintro e' w' ⟨rfl, q, rfl⟩)
  go_ret
  exact ⟨rfl, q, rfl⟩

theorem cell_eq {w : World} {b o : Nat} {c : Array Value} {t : TypeId} {fz : Nat × Nat} (h : w.heap[b]? = some (.cells c t fz)) : w.cell? ⟨b, o, none⟩ = c[o]? := by
  simp [World.cell?, h]
/-- A bucket's zero, shut. -/
def zl : List Value := zb.toList
theorem zl_range {w : World} {b o : Nat} {c : Array Value} {t : TypeId} {fz : Nat × Nat} (h : w.heap[b]? = some (.cells c t fz)) (hc : ∀ k, k < 25 → c[o + k]? = zb[k]?) : w.rangeAt b o zl := by
  intro j v hv
  have hj : j < 25 := (List.getElem?_eq_some_iff.1 hv).1
  rw [cell_eq h, hc j hj, ← Array.getElem?_toList]
  exact hv
@[go_sem] theorem eq29 (w : World) : (Op.equalIn 9999 29 (.agg #[.int .u8 0, .int .u8 0, .int .u8 0, .int .u8 0, .int .u8 0, .int .u8 0, .int .u8 0, .int .u8 0]) (.agg #[.int .u8 0, .int .u8 0, .int .u8 0, .int .u8 0, .int .u8 0, .int .u8 0, .int .u8 0, .int .u8 0])).run Ybad.prog w = .ok true w := by kernel_rfl
@[go_sem] theorem eq30 (w : World) : (Op.equalIn 9999 30 (.pointer none) (.pointer none)).run Ybad.prog w = .ok true w := by kernel_rfl
end Go.Proofs.YbulkeaqaDoor
