/- S6350A: roundSets.add, nodeSet.count. -/
import Derived.Test.YbulkeamgAdd
import Derived.Test.YbulkeamgCount
namespace Go.Proofs.Ybulkeamg
open Go.RowKit
set_option linter.unusedSimpArgs false

/-- The bits of the first j words. -/
def popSum (G : Nat → Nat) : Nat → Nat
  | 0 => 0
  | j + 1 => popSum G j + pop (G j)
theorem pop_le (x : Nat) : pop x ≤ 64 := by
  have p8 : ∀ c ∈ bytes8 x, pc c ≤ 8 := fun c hc => pc_le c (bytes8_lt x c hc)
  simp only [bytes8, List.mem_cons, List.not_mem_nil, or_false, forall_eq_or_imp, forall_eq] at p8
  simp only [pop, bytes8, List.map_cons, List.map_nil, List.sum_cons, List.sum_nil]
  omega
theorem popSum_le (G : Nat → Nat) : ∀ j, popSum G j ≤ 64 * j
  | 0 => by simp [popSum]
  | j + 1 => by have := popSum_le G j; have := pop_le (G j); simp only [popSum]; omega

theorem count_any (B o n c : Nat) (G : Nat → Nat) (w : World) (hn : n ≤ 1000) (hG : ∀ k, k < n → w.cell? ⟨B, o + k, none⟩ = some (.int .u64 (G k)) ∧ G k < 18446744073709551616) :
    Calls Yba.prog 14 #[.slice (some ⟨B, o, none⟩) n c] w fun e w' => e = .returned (.int .i64 (popSum G n)) ∧ w = w' := by
  have HG : Hid _ := hG
  clear hG
  go_enter Yba.func14, Yba.ntmps14
  go_wp2_with fail
  go_loopw [3, 8] (fun s v wr => ∃ k : Nat, k ≤ n ∧ v = .int .i64 k ∧ s = .int .i64 (popSum G k) ∧ w = wr) (fun _ v _ => n - (intOf v).toNat)
  case atStart => exact ⟨0, Nat.zero_le _, rfl, rfl, rfl⟩
  case round =>
    obtain ⟨k, hk, rfl, rfl, rfl⟩ := hrel
    by_cases hlt : k < n
    · obtain ⟨hc, hb⟩ := HG.out k hlt
      have hp := popSum_le G k
      have hp2 := pop_le (G k)
      go_wp2_with (go_at_call 19; refine (ones_any (G k) hb _).mono ?_; rintro e w2 ⟨rfl, rfl⟩)
      exact ⟨⟨k + 1, by omega, by go_num, by simp [popSum], trivial⟩, by simp [intOf]; omega⟩
    · have ek : k = n := by omega
      subst ek
      go_wp2_with fail
      go_ret
      exact ⟨rfl, rfl⟩
end Go.Proofs.Ybulkeamg
