import Derived.Test.YbulkealsPlain
namespace Go.Proofs.Ybulkeals
open Go.RowKit Go.MapKept Go.Maps Go.Sort Go.Shelf
set_option linter.unusedSimpArgs false

set_option maxRecDepth 100000 in
set_option maxHeartbeats 1000000 in
theorem law_long (sA iA : Option Addr) (n sc m ic : Nat) (sel : Int) (raw : ByteArray) (w : World) (h : 65536 < n ∨ 65536 < m) (hn : n ≤ 9223372036854775807) (hm : m ≤ 9223372036854775807) :
    Calls Yba.prog 3 #[.slice sA n sc, .slice iA m ic, .int .u8 sel, .string raw] w fun e w' => e = .returned (.bool true) ∧ Below w.heap.size w w' := by
  by_cases h1 : 65536 < n
  · have hd : decide ((65536 : Int) < (n : Int)) = true := by simp; omega
    go_enter Yba.func3, Yba.ntmps3
    go_wp2
    go_ret
    exact ⟨rfl, Below.refl _ _⟩
  · have hd : decide ((65536 : Int) < (n : Int)) = false := by simp; omega
    have h2 : 65536 < m := by omega
    have hd2 : decide ((65536 : Int) < (m : Int)) = true := by simp; omega
    go_enter Yba.func3, Yba.ntmps3
    go_wp2
    go_ret
    exact ⟨rfl, Below.refl _ _⟩

set_option maxRecDepth 100000 in
set_option maxHeartbeats 1000000 in
theorem law_total (sA iA : Option Addr) (sb so n sc m ic : Nat) (KA : Nat → Option Addr) (KL KC : Nat → Nat) (sel : Int) (raw : ByteArray) (w : World) (hn : n ≤ 65536) (hm : m ≤ 65536)
    (hsA : 0 < n → sA = some ⟨sb, so, none⟩) (hst : ∀ s, s < n → w.cell? ⟨sb, so + s * 2 + 1, none⟩ = some (.slice (KA s) (KL s) (KC s))) (hKL : ∀ s, s < n → KL s ≤ 140737488351232) (ht : 1048576 < tot KL n) :
    Calls Yba.prog 3 #[.slice sA n sc, .slice iA m ic, .int .u8 sel, .string raw] w fun e w' => e = .returned (.bool true) ∧ Below w.heap.size w w' := by
  have hd1 : decide ((65536 : Int) < (n : Int)) = false := by simp; omega
  have hd2 : decide ((65536 : Int) < (m : Int)) = false := by simp; omega
  have HA : Hid (0 < n → sA = some ⟨sb, so, none⟩) := hsA
  have Hs : Hid (∀ s, s < n → w.cell? ⟨sb, so + s * 2 + 1, none⟩ = some (.slice (KA s) (KL s) (KC s))) := hst
  have HK : Hid (∀ s, s < n → KL s ≤ 140737488351232) := hKL
  have hT := tot_le KL 140737488351232 n hKL
  clear hsA hst hKL
  go_enter Yba.func3, Yba.ntmps3
  go_wp2
  go_loop [9, 10] (fun t i => ∃ s : Nat, s ≤ n ∧ i = .int .i64 s ∧ t = .int .i64 (tot KL s)) (fun _ i => n - (intOf i).toNat)
  case atStart => exact ⟨0, Nat.zero_le _, rfl, rfl⟩
  case round =>
    obtain ⟨s, hs, rfl, rfl⟩ := hrel
    by_cases hlt : s < n
    · have e0 := HA.out (by omega)
      have hc := Hs.out s hlt
      have hk := HK.out s hlt
      have hm1 := tot_mono KL (show s + 1 ≤ n from hlt)
      have hm2 := tot_mono KL (show s ≤ n by omega)
      have hsu : tot KL s + KL s ≤ tot KL n := hm1
      have Hx : Hid (tot KL (s + 1) = tot KL s + KL s) := rfl
      clear hm1 HA Hs HK
      subst e0
      go_wp2
      go_round
      case rel => exact ⟨s + 1, by omega, by go_num, by rw [Hx.out]; go_num⟩
      case measure => simp [intOf]; omega
    · have es : s = n := by omega
      have hd3 : decide ((1048576 : Int) < (tot KL s : Int)) = true := by rw [es]; simp; omega
      go_wp2
      go_ret
      exact ⟨rfl, Below.refl _ _⟩
end Go.Proofs.Ybulkeals
