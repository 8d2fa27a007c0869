/- S6350A: addWord, within its words. -/
import Derived.Test.YbulkeamgSets
import Derived.Deep.RegionWith
namespace Go.Proofs.Ybulkeamg
open Go.RowKit
set_option linter.unusedSimpArgs false

set_option maxHeartbeats 1000000 in
theorem addWord_any (R o b0 f W i n c Bw u x lim d : Nat) (v g : Int) (w : World) (h0 : w.cell? ⟨R, o, none⟩ = some (.int .i64 b0)) (h1 : w.cell? ⟨R, o + 1, none⟩ = some (.int .i64 f)) (h2 : w.cell? ⟨R, o + 2, none⟩ = some (.int .i64 W)) (h3 : w.cell? ⟨R, o + 3, none⟩ = some (.slice (some ⟨Bw, 0, none⟩) n c))
    (hi : ((u : Int) - b0) * W = i) (hu : b0 ≤ u) (hu2 : u ≤ 1000) (hi1 : i ≤ 10000) (hW : W ≤ 1000) (hW0 : 0 < W) (hic : i + W ≤ c) (hc : c ≤ maxLen) (hf : f ≤ 1000) (hx0 : f ≤ x) (hx1 : x < f + W) (hd : (x : Int) - f = d)
    (hg : w.cell? ⟨Bw, i + d, none⟩ = some (.int .u64 g)) (hfz : w.frozen? ⟨Bw, i + d, none⟩ = false) :
    Calls Yba.prog 18 #[.pointer (some ⟨R, o, none⟩), .int .i64 u, .int .i64 x, .int .u64 v, .int .i64 lim] w fun e w' => e = .returned (.tuple #[]) ∧ ∃ q, w' = (w.setCell ⟨Bw, i + d, none⟩ (.int .u64 (bits .or .u64 g v))).drewN q := by
  have hd2 : d < W := by omega
  have hdn : x - f = d := by omega
  have hdn2 : x - f < W := by omega
  have hwx : IntKind.i64.wrap ((x : Int) - f) = d := by rw [IntKind.wrap_i64]; omega
  have hd3 : (d : Int) < (W : Int) := by omega
  have hd4 : ¬ ((d : Int) < 0) := by omega
  have hx9 : x ≤ 2000 := by omega
  have HA : Hid _ := fun q => at_any R o b0 W i n c Bw u (w.drewN q) h0 h2 h3 hi hu hu2 hi1 hW hW0 hic hc
  clear hi
  go_enter Yba.func18, Yba.ntmps18
  go_wp2_with fail
  go_quiet (fail)
  go_wp2_with fail
  have hwx2 : wrap64 ((x : Int) - f) = d := by unfold wrap64; omega
  clear hd hdn hdn2 hx0 hx1 hx9
  go_region_with (go_at_call 13; refine Calls.mono (HA.out _) ?_; rintro e w2 ⟨rfl, q, rfl⟩)
  all_goals
    go_wp2_with fail
    go_end0
    exact ⟨rfl, _, rfl⟩
end Go.Proofs.Ybulkeamg
