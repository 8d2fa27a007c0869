/- S6350A: roundSets.add. -/
import Derived.Test.YbulkeamgAdd2
namespace Go.Proofs.Ybulkeamg
open Go.RowKit
set_option linter.unusedSimpArgs false

theorem add_any (R o b0 f W i n c Bw u v d : Nat) (g : Int) (w : World) (h0 : w.cell? ⟨R, o, none⟩ = some (.int .i64 b0)) (h1 : w.cell? ⟨R, o + 1, none⟩ = some (.int .i64 f)) (h2 : w.cell? ⟨R, o + 2, none⟩ = some (.int .i64 W)) (h3 : w.cell? ⟨R, o + 3, none⟩ = some (.slice (some ⟨Bw, 0, none⟩) n c))
    (hi : ((u : Int) - b0) * W = i) (hu : b0 ≤ u) (hu2 : u ≤ 1000) (hi1 : i ≤ 10000) (hW : W ≤ 1000) (hW0 : 0 < W) (hic : i + W ≤ c) (hc : c ≤ maxLen) (hf : f ≤ 1000) (hv : v ≤ 1000) (hx0 : f ≤ v / 64) (hx1 : v / 64 < f + W) (hd : ((v / 64 : Nat) : Int) - f = d)
    (hg : w.cell? ⟨Bw, i + d, none⟩ = some (.int .u64 g)) (hfz : w.frozen? ⟨Bw, i + d, none⟩ = false) :
    Calls Yba.prog 11 #[.pointer (some ⟨R, o, none⟩), .int .i64 u, .int .i64 v] w fun e w' => e = .returned (.tuple #[]) ∧ ∃ q, w' = (w.setCell ⟨Bw, i + d, none⟩ (.int .u64 (bits .or .u64 g ((2 ^ (v % 64) : Nat) : Int)))).drewN q := by
  have HA : Hid _ := addWord_any R o b0 f W i n c Bw u (v / 64) (v / 64 + 1) d ((2 ^ (v % 64) : Nat) : Int) g w h0 h1 h2 h3 hi hu hu2 hi1 hW hW0 hic hc hf hx0 hx1 hd hg hfz
  have hp : (2 : Nat) ^ (v % 64) ≤ 2 ^ 63 := Nat.pow_le_pow_right (by decide) (by omega)
  clear h0 h1 h2 h3 hi hu hd hg hfz hx0 hx1
  go_enter Yba.func11, Yba.ntmps11
  have hwp : IntKind.u64.wrap ((2 : Int) ^ (v % 64)) = ((2 ^ (v % 64) : Nat) : Int) := by
    have e : ((2 : Int) ^ (v % 64)) = ((2 ^ (v % 64) : Nat) : Int) := by simp
    rw [e, IntKind.wrap_u64]
    generalize (2 : Nat) ^ (v % 64) = P at hp ⊢
    omega
  have HW : Hid _ := hwp
  clear hwp
  go_wp2_with (go_at_call 18; rw [HW.out]; refine Calls.mono HA.out ?_; rintro e w2 ⟨rfl, q, rfl⟩)
  go_end0
  exact ⟨rfl, _, rfl⟩
end Go.Proofs.Ybulkeamg
