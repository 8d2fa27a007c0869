/- LawS6357AWhole: the short table. -/
import Derived.Test.YbulkeaqaDoorMake
import Derived.Deep.DeepCutAuto
namespace Go.Proofs.YbulkeaqaDoor
open Go.RowKit
set_option linter.unusedSimpArgs false

theorem rangeAt_alloc {w : World} {b o : Nat} {cs : List Value} {x : Obj} (h : w.rangeAt b o cs) (hb : b < w.heap.size) : (w.alloc x).rangeAt b o cs := fun j v hv => by
  rw [World.cell?_alloc_past _ _ _ hb]
  exact h j v hv

set_option maxHeartbeats 2000000 in
theorem law_small (k i : Int) (e n idx : Nat) (w : World) (hk : k % 2 = 0) (k0 : 0 ≤ k) (k1 : k ≤ 255) (he : k / 2 % 10 = e) (_he9 : e ≤ 9) (hn : (2 : Int) ^ e = n) (hn1 : 1 ≤ n) (hn2 : n ≤ 512)
    (hidx : (IntKind.u64.wrap i).tmod (n : Int) = idx) (hlt : idx < n) :
    Calls Ybad.prog 3 #[.int .u8 k, .int .i64 i] w fun e w' => e = .returned (.bool true) ∧ Below w.heap.size w w' := by
  have hd : decide ((512 : Int) < (n : Int)) = false := by simp; omega
  have hd2 : decide ((n : Int) ≤ 512) = true := by simp; omega
  go_enter Ybad.func3, Ybad.ntmps3
  go_wp2_with (first
    | (go_at_call 4; refine (make_small n w hn2).mono ?_; rintro e' w1 ⟨b, rfl, hblk, hb1, hb2, hbel⟩; have HB : Hid (Below w.heap.size w w1) := hbel; have HR : Hid (w1.rangeAt b (idx * 25) zl) := zl_range hblk (fun k hk => zb_made hlt hk); clear hblk hbel)
    | (go_at_call 5; refine (clone_nil _).mono ?_; rintro e' w2 ⟨rfl, rfl⟩)
    | (go_at_call 6; refine (at_small w1.heap.size b n idx _ hlt (by simp) (by simp)).mono ?_; rintro e' w2 ⟨rfl, rfl⟩)
    | (refine wpList_load_mid rfl 32 (.tmp 106) rfl b (idx * 25) rfl [.int .u8 0, .int .u8 0, .int .u8 0, .int .u8 0, .int .u8 0, .int .u8 0, .int .u8 0, .int .u8 0, .int .u8 0, .int .u8 0, .int .u8 0, .int .u8 0, .int .u8 0, .int .u8 0, .int .u8 0, .int .u8 0, .int .u8 0, .int .u8 0, .int .u8 0, .int .u8 0, .int .u8 0, .int .u8 0, .int .u8 0, .int .u8 0, .pointer none] _ (rangeAt_alloc HR.out hb2) Ybad.underlying32 rfl (by kernel_rfl) ?_)
    | (go_at_call 7; refine (equal_nil _).mono ?_; rintro e' w2 ⟨rfl, rfl⟩))
  have hd4 : decide (0 < n) = true := by simp; omega
  go_quiet (fail)
  go_wp2_with (go_at_call 7; refine (equal_nil _).mono ?_; rintro e' w2 ⟨rfl, rfl⟩)
  go_ret
  have b2 := HB.out.alloc HB.out.size (.cells #[.int .i64 n, .slice (some ⟨b, 0, none⟩) n n, .slice none 0 0, .int .i64 0] 26)
  exact ⟨rfl, b2.os, b2.tape, b2.output, b2.size, b2.block⟩
end Go.Proofs.YbulkeaqaDoor
