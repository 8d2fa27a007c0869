/- math/bits.OnesCount64 and nodeSet.count, walked. -/
import Derived.Test.YbulkeamgRows
import Derived.Test.YbulkeamgPop
import Derived.WalkKit
import Derived.Laws.Bits64b
import Derived.Laws.BitsLemmas
namespace Go.Proofs.Ybulkeamg
open Go.RowKit
set_option linter.unusedSimpArgs false

/-- The steps, as the walk meets them. -/
theorem pop_int (x : Nat) (h : x < 18446744073709551616) : ∃ a1 a2 x1 b1 b2 x2 c x3 x4 x5 x6 : Nat,
    bits .and .u64 ((x : Int) / 2) 6148914691236517205 = a1 ∧ bits .and .u64 (x : Int) 6148914691236517205 = a2 ∧ (a1 : Int) + a2 = x1 ∧ x1 < 18446744073709551616 ∧
    bits .and .u64 ((x1 : Int) / 4) 3689348814741910323 = b1 ∧ bits .and .u64 (x1 : Int) 3689348814741910323 = b2 ∧ (b1 : Int) + b2 = x2 ∧ x2 < 18446744073709551616 ∧
    (x2 : Int) / 16 + x2 = c ∧ c < 18446744073709551616 ∧ bits .and .u64 (c : Int) 1085102592571150095 = x3 ∧ x3 < 18446744073709551616 ∧
    (x3 : Int) + x3 / 256 = x4 ∧ x4 < 18446744073709551616 ∧ (x4 : Int) + x4 / 65536 = x5 ∧ x5 < 18446744073709551616 ∧ (x5 : Int) + x5 / 4294967296 = x6 ∧ x6 < 9223372036854775808 ∧ bits .and .i64 (x6 : Int) 127 = pop x := by
  obtain ⟨x1, x2, x3, x4, x5, x6, h1, l1, h2, l2, ⟨l3, h3⟩, h4, l4, h5, l5, h6, l6, hp, l7⟩ := pop_steps x h
  refine ⟨x / 2 &&& 6148914691236517205, x &&& 6148914691236517205, x1, x1 / 4 &&& 3689348814741910323, x1 &&& 3689348814741910323, x2, x2 / 16 + x2, x3, x4, x5, x6, ?_, ?_, ?_, l1, ?_, ?_, ?_, l2, ?_, l3, ?_, l7, ?_, l4, ?_, l5, ?_, l6, ?_⟩
  · exact bits_and_u64_nat (x / 2) 6148914691236517205 (by omega) (by omega)
  · exact bits_and_u64_nat x 6148914691236517205 h (by omega)
  · exact_mod_cast h1
  · exact bits_and_u64_nat (x1 / 4) 3689348814741910323 (by omega) (by omega)
  · exact bits_and_u64_nat x1 3689348814741910323 l1 (by omega)
  · exact_mod_cast h2
  · simp
  · rw [← h3]; exact bits_and_u64_nat _ 1085102592571150095 l3 (by omega)
  · omega
  · omega
  · omega
  · have := bits_mask .i64 63 (by decide) (fun n h0 h1 => by rw [IntKind.wrap_i64]; omega) 7 (by omega) (x6 : Int) (by omega) (by omega)
    have e : ((2 : Int) ^ 7 - 1) = 127 := by decide
    rw [e] at this
    rw [this, ← hp]
    simp

theorem ones_any (x : Nat) (h : x < 18446744073709551616) (w : World) : Calls Yba.prog 19 #[.int .u64 x] w fun e w' => e = .returned (.int .i64 (pop x)) ∧ w = w' := by
  obtain ⟨a1, a2, x1, b1, b2, x2, c, x3, x4, x5, x6, e1, e2, e3, l1, e4, e5, e6, l2, e7, l3, e8, l4, e9, l5, e10, l6, e11, l7, e12⟩ := pop_int x h
  go_enter Yba.func19, Yba.ntmps19
  go_wp2
  go_ret
  exact ⟨rfl, rfl⟩
end Go.Proofs.Ybulkeamg
