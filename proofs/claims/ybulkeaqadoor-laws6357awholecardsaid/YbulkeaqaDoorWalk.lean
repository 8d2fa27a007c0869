/- LawS6357AWhole: the walk, whatever the input. -/
import Derived.Test.YbulkeaqaDoorBig
namespace Go.Proofs.YbulkeaqaDoor
open Go.RowKit
set_option linter.unusedSimpArgs false

theorem Tab.on {w W : World} (h : Tab w) (e : ∀ o, W.cell? ⟨1, o, none⟩ = w.cell? ⟨1, o, none⟩) : Tab W :=
  ⟨(e _).trans h.c10, (e _).trans h.c11, (e _).trans h.c12, (e _).trans h.c13, (e _).trans h.c14⟩

theorem tz_any (e : Nat) (h1 : 10 ≤ e) (h2 : e ≤ 14) (w : World) (h : Tab w) : Calls Ybad.prog 8 #[.int .u64 ((2 ^ e : Nat) : Int)] w fun x w' => x = .returned (.int .i64 (e : Int)) ∧ w = w' := by
  have : e = 10 ∨ e = 11 ∨ e = 12 ∨ e = 13 ∨ e = 14 := by omega
  rcases this with rfl | rfl | rfl | rfl | rfl
  · exact tz10 w h
  · exact tz11 w h
  · exact tz12 w h
  · exact tz13 w h
  · exact tz14 w h

theorem idx_of (i : Int) (n : Nat) (hn : 0 < n) : ∃ idx : Nat, (IntKind.u64.wrap i).tmod (n : Int) = idx ∧ idx < n := by
  have h0 : 0 ≤ IntKind.u64.wrap i := by rw [IntKind.wrap_u64]; omega
  refine ⟨((IntKind.u64.wrap i).tmod (n : Int)).toNat, ?_, ?_⟩
  · rw [Int.tmod_eq_emod_of_nonneg h0]
    have := Int.emod_nonneg (IntKind.u64.wrap i) (show (n : Int) ≠ 0 by omega)
    omega
  · rw [Int.tmod_eq_emod_of_nonneg h0]
    have := Int.emod_lt_of_pos (IntKind.u64.wrap i) (show (0 : Int) < n by omega)
    have := Int.emod_nonneg (IntKind.u64.wrap i) (show (n : Int) ≠ 0 by omega)
    omega

theorem walk (k i : Int) (w : World) (k0 : 0 ≤ k) (k1 : k ≤ 255) (hT : Tab w) (h1 : 1 < w.heap.size) :
    Calls Ybad.prog 3 #[.int .u8 k, .int .i64 i] w fun e w' => e = .returned (.bool true) ∧ Below w.heap.size w w' := by
  by_cases hk : k % 2 = 0
  · obtain ⟨e, he⟩ : ∃ e : Nat, k / 2 % 10 = e := ⟨(k / 2 % 10).toNat, by omega⟩
    have he9 : e ≤ 9 := by omega
    have h9 : (2 : Nat) ^ e ≤ 2 ^ 9 := Nat.pow_le_pow_right (by decide) he9
    have hp := Nat.two_pow_pos e
    obtain ⟨idx, hidx, hlt⟩ := idx_of i (2 ^ e) hp
    exact law_small k i e (2 ^ e) idx w hk k0 k1 he he9 (by simp) hp h9 hidx hlt
  · obtain ⟨e, he⟩ : ∃ e : Nat, 10 + k / 2 % 5 = e := ⟨(10 + k / 2 % 5).toNat, by omega⟩
    have he10 : 10 ≤ e := by omega
    have he14 : e ≤ 14 := by omega
    have h14 : (2 : Nat) ^ e ≤ 2 ^ 14 := Nat.pow_le_pow_right (by decide) he14
    have h10 : (2 : Nat) ^ 10 ≤ 2 ^ e := Nat.pow_le_pow_right (by decide) he10
    have hp := Nat.two_pow_pos e
    obtain ⟨r, rfl⟩ : ∃ r, e = r + 1 := ⟨e - 1, by omega⟩
    obtain ⟨d, hd⟩ : ∃ d, r + 1 = d + 9 := ⟨r + 1 - 9, by omega⟩
    have hm : 2 ^ d * 512 = 2 ^ (r + 1) := by rw [hd, Nat.pow_add]
    have hh : 2 ^ (r + 1) = 2 * 2 ^ r := by rw [Nat.pow_succ]; omega
    obtain ⟨idx, hidx, hlt⟩ := idx_of i (2 ^ (r + 1)) hp
    have hz : ∀ W, (∀ o, W.cell? ⟨1, o, none⟩ = w.cell? ⟨1, o, none⟩) → Calls Ybad.prog 8 #[.int .u64 ((2 ^ (r + 1) : Nat) : Int)] W fun e W' => e = .returned (.int .i64 ((r : Int) + 1)) ∧ W = W' := by
      intro W hW
      have := tz_any (r + 1) he10 he14 W (hT.on hW)
      simpa using this
    have hpl := pos_lt (e := r + 1) (by omega) hlt
    have hdiv : ((2 ^ (r + 1) : Nat) : Int).tdiv 2 = (2 ^ r : Nat) := by
      rw [Int.tdiv_eq_ediv_of_nonneg (by omega)]
      omega
    have hq : (2 * (idx : Int)).tmod ((2 ^ (r + 1) : Nat) : Int) = ((2 * idx % 2 ^ (r + 1) : Nat) : Int) := by
      rw [Int.tmod_eq_emod_of_nonneg (by omega)]
      simp
    have hql : 2 * idx % 2 ^ (r + 1) < 2 ^ (r + 1) := Nat.mod_lt _ hp
    by_cases hle : 2 ^ r ≤ idx
    · have hpos : pos (2 ^ (r + 1)) (2 ^ r) idx = 2 * idx % 2 ^ (r + 1) + 1 := by unfold pos; rw [if_pos hle]
      exact law_hi k i (r + 1) (2 ^ (r + 1)) (2 ^ d) (2 ^ r) r (2 * idx % 2 ^ (r + 1)) (2 * idx % 2 ^ (r + 1) + 1) idx w (by omega) k0 k1 he he10 he14 rfl (by simp) rfl hm hdiv (by omega) h14 hidx hlt hq (by omega) (by simp) hle (by rw [← hpos]; exact hpl) hpos h1 hz
    · have hpos : pos (2 ^ (r + 1)) (2 ^ r) idx = 2 * idx % 2 ^ (r + 1) := by unfold pos; rw [if_neg hle]; omega
      exact law_lo k i (r + 1) (2 ^ (r + 1)) (2 ^ d) (2 ^ r) r (2 * idx % 2 ^ (r + 1)) idx w (by omega) k0 k1 he he10 he14 rfl (by simp) rfl hm hdiv (by omega) h14 hidx hlt hq (by omega) (by omega) (by omega) hpos h1 hz
end Go.Proofs.YbulkeaqaDoor
