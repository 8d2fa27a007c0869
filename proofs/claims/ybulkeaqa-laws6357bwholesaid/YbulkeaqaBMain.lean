/- S6357B: the law. -/
import Derived.Test.YbulkeaqaBT0a
namespace Go.Proofs.Ybulkeaqa
open Go.RowKit Go.Shelf
set_option linter.unusedSimpArgs false
attribute [local go_sem] Oper.semAt_some eql33

def spOf (e0 e1 : Nat) : Nat := if e1 = e0 + 1 then 2 ^ e0 else 0
theorem sp_dest (e0 e1 i k : Nat) : destOf (i % 2 ^ e1) (spOf e0 e1) k < 2 ^ e1 := by
  have hi : i % 2 ^ e1 < 2 ^ e1 := Nat.mod_lt _ (Nat.two_pow_pos e1)
  unfold destOf spOf
  by_cases h : e1 = e0 + 1
  · rw [if_pos h, if_neg (Nat.ne_of_gt (Nat.two_pow_pos e0))]
    refine Nat.or_lt_two_pow hi (Nat.lt_of_le_of_lt Nat.and_le_right ?_)
    rw [h]; exact Nat.pow_lt_pow_right (by decide) (by omega)
  · rw [if_neg h, if_pos rfl]; exact hi
theorem geo_ok {e0 e1 len : Nat} (h0 : e0 ≤ 4) (h1 : e1 = e0 + 1 ∨ e1 = e0 ∨ e1 + 1 = e0) : GeoN ⟨0, 0, 0, 0, 2 ^ e1, 2 ^ e0, len, spOf e0 e1, e1, e0⟩ := by
  intro bm bc bo d1 d2 d3
  have hp : ∀ e, e ≤ 5 → 2 ^ e ≤ 32 := fun e he => Nat.pow_le_pow_right (by decide) he
  have hp4 : 2 ^ e0 ≤ 16 := Nat.pow_le_pow_right (by decide) h0
  refine ⟨rfl, by show e1 ≤ 5; omega, hp e1 (by omega), Nat.two_pow_pos e1, rfl, h0, hp4, Nat.two_pow_pos e0, ?_, ?_, ?_, fun i k _ => sp_dest e0 e1 i k, d1, d2, d3⟩
  · show bits .andNot .u64 (((2 ^ e1 : Nat) : Int) - 1) (((2 ^ e0 : Nat) : Int) - 1) = ((spOf e0 e1 : Nat) : Int)
    rcases (show e0 = 0 ∨ e0 = 1 ∨ e0 = 2 ∨ e0 = 3 ∨ e0 = 4 by omega) with rfl | rfl | rfl | rfl | rfl <;> rcases (show e1 = 0 ∨ e1 = 1 ∨ e1 = 2 ∨ e1 = 3 ∨ e1 = 4 ∨ e1 = 5 by omega) with rfl | rfl | rfl | rfl | rfl | rfl <;> first | (exfalso; omega) | rfl
  · show bits .andNot .i64 (((2 ^ e1 : Nat) : Int) - 1) (((2 ^ e0 : Nat) : Int) - 1) = ((spOf e0 e1 : Nat) : Int)
    rcases (show e0 = 0 ∨ e0 = 1 ∨ e0 = 2 ∨ e0 = 3 ∨ e0 = 4 by omega) with rfl | rfl | rfl | rfl | rfl <;> rcases (show e1 = 0 ∨ e1 = 1 ∨ e1 = 2 ∨ e1 = 3 ∨ e1 = 4 ∨ e1 = 5 by omega) with rfl | rfl | rfl | rfl | rfl | rfl <;> first | (exfalso; omega) | rfl
  · show spOf e0 e1 < 1024
    unfold spOf
    split
    · omega
    · omega

set_option maxHeartbeats 4000000 in
set_option maxRecDepth 100000 in
theorem law_any {w : World} {a b c h : Nat} {M : Nat → Bool} {K : Nat → Nat} {mA kA : Option Addr} {mn mc kn kc : Nat} (ha : a ≤ 255) (hb : b ≤ 255) (hc : c ≤ 255) (hh : h < 18446744073709551616) (hk : Keys w kA kn K) (hm : Mask w mA mn M) :
    Calls Yba.prog 3 #[.int .u8 a, .int .u8 b, .int .u8 c, .slice mA mn mc, .slice kA kn kc, .int .u64 h] w fun e w' => e = .returned (.bool true) ∧ Stay w.heap.size (fun _ => False) w w' := by
  have HK : Hid (Keys w kA kn K ∧ Mask w mA mn M ∧ h < 18446744073709551616) := ⟨hk, hm, hh⟩
  clear hk hm hh
  go_enter Yba.func3, Yba.ntmps3
  by_cases h1 : 65536 < kn
  · have hd : decide ((65536 : Int) < (kn : Int)) = true := decide_eq_true (by omega)
    go_wp2_with fail
    go_ret
    exact ⟨rfl, Stay.refl _ _ w⟩
  · have hd : decide ((65536 : Int) < (kn : Int)) = false := decide_eq_false (by omega)
    by_cases h2 : 65536 < mn
    · have hd2 : decide ((65536 : Int) < (mn : Int)) = true := decide_eq_true (by omega)
      go_wp2_with fail
      go_ret
      exact ⟨rfl, Stay.refl _ _ w⟩
    · have hd2 : decide ((65536 : Int) < (mn : Int)) = false := decide_eq_false (by omega)
      go_upto_region 3 with (fail)
      go_cut [13] from 45 to 48 (fun v wc => ∃ e0 : Nat, e0 ≤ 4 ∧ v = .int .i64 ((2 ^ e0 : Nat) : Int) ∧ w = wc)
      case first =>
        rcases (show a % 5 = 0 ∨ a % 5 = 1 ∨ a % 5 = 2 ∨ a % 5 = 3 ∨ a % 5 = 4 by omega) with e | e | e | e | e
        · have hmod : (a : Int) % 5 = 0 := by omega
          go_wp2_with fail
          go_meet
          case rel => exact ⟨0, by omega, rfl, rfl⟩
        · have hmod : (a : Int) % 5 = 1 := by omega
          go_wp2_with fail
          go_meet
          case rel => exact ⟨1, by omega, rfl, rfl⟩
        · have hmod : (a : Int) % 5 = 2 := by omega
          go_wp2_with fail
          go_meet
          case rel => exact ⟨2, by omega, rfl, rfl⟩
        · have hmod : (a : Int) % 5 = 3 := by omega
          go_wp2_with fail
          go_meet
          case rel => exact ⟨3, by omega, rfl, rfl⟩
        · have hmod : (a : Int) % 5 = 4 := by omega
          go_wp2_with fail
          go_meet
          case rel => exact ⟨4, by omega, rfl, rfl⟩
      case rest =>
        obtain ⟨e0, he0, rfl, rfl⟩ := hcut
        have ho3 : 2 ^ e0 ≤ 16 := Nat.pow_le_pow_right (by decide) he0
        have ho4 : 0 < 2 ^ e0 := Nat.two_pow_pos e0
        have HP : Hid (∀ oN : Nat, oN = 2 ^ e0 → 2 * oN = 2 ^ (e0 + 1) ∧ (2 ≤ oN → ∃ e1, e1 + 1 = e0 ∧ oN / 2 = 2 ^ e1)) := fun oN ho => by
          subst ho
          refine ⟨by rw [Nat.pow_succ]; omega, fun h2 => ?_⟩
          cases e0 with
          | zero => simp at h2
          | succ e1 => exact ⟨e1, rfl, by rw [Nat.pow_succ]; omega⟩
        have HE : Hid (e0 ≤ 4) := he0
        generalize hoN : 2 ^ e0 = oN at ho3 ho4 ⊢
        have HON : Hid (2 ^ e0 = oN) := hoN
        clear hoN he0
        have FIN : Hid (∀ nN e1 : Nat, nN = 2 ^ e1 → (e1 = e0 + 1 ∨ e1 = e0 ∨ e1 + 1 = e0) → GeoN ⟨0, 0, 0, 0, nN, oN, kn, spOf e0 e1, e1, e0⟩ ∧ nN ≤ 32) := fun nN e1 hn he => by
          have h9 := geo_ok (len := kn) HE.out he
          rw [hn, ← HON.out]
          exact ⟨h9, Nat.le_trans (Nat.pow_le_pow_right (by decide) (show e1 ≤ 5 by have := HE.out; omega)) (by decide)⟩
        rcases (show b % 3 = 0 ∨ b % 3 = 1 ∨ b % 3 = 2 by omega) with e | e | e
        · have hmod : (b : Int) % 3 = 0 := by omega
          have HP2 : Hid _ := (HP.out oN HON.out.symm).1
          clear e
          go_upto_region 11 with (fail)
          go_cut [14, 15] from 63 to 66 (fun v14 v wc => v14 = .int .i64 ((2 * oN : Nat) : Int) ∧ v = .int .i64 ((c % oN : Nat) : Int) ∧ w = wc)
          case first =>
            go_wp2_with fail
            go_meet
            case rel => exact ⟨by first | rfl | (congr 1; omega), rfl, rfl⟩
          case rest =>
            obtain ⟨rfl, rfl, rfl⟩ := hcut
            go_step
            exact t0a (g := ⟨0, 0, 0, 0, 2 * oN, oN, kn, spOf e0 (e0 + 1), e0 + 1, e0⟩) (nx := c % oN) (FIN.out (2 * oN) (e0 + 1) HP2.out (.inl rfl)).1 rfl HK.out.2.2 HK.out.1 (by omega) HK.out.2.1 (by omega) (Nat.mod_lt _ ho4) (FIN.out (2 * oN) (e0 + 1) HP2.out (.inl rfl)).2 ho3 (Stay.refl _ _ w)
        · have hmod : (b : Int) % 3 = 1 := by omega
          clear e
          go_upto_region 11 with (fail)
          go_cut [14, 15] from 63 to 66 (fun v14 v wc => v14 = .int .i64 ((oN : Nat) : Int) ∧ v = .int .i64 ((c % oN : Nat) : Int) ∧ w = wc)
          case first =>
            go_wp2_with fail
            go_meet
            case rel => exact ⟨by first | rfl | (congr 1; omega), rfl, rfl⟩
          case rest =>
            obtain ⟨rfl, rfl, rfl⟩ := hcut
            go_step
            exact t0a (g := ⟨0, 0, 0, 0, oN, oN, kn, spOf e0 (e0), e0, e0⟩) (nx := c % oN) (FIN.out (oN) (e0) HON.out.symm (.inr (.inl rfl))).1 rfl HK.out.2.2 HK.out.1 (by omega) HK.out.2.1 (by omega) (Nat.mod_lt _ ho4) (FIN.out (oN) (e0) HON.out.symm (.inr (.inl rfl))).2 ho3 (Stay.refl _ _ w)
        · have hmod : (b : Int) % 3 = 2 := by omega
          clear e
          by_cases h2 : 2 ≤ oN
          · have hd3 : decide ((2 : Int) ≤ (oN : Int)) = true := decide_eq_true (by omega)
            obtain ⟨e1, he1, hne⟩ := (HP.out oN HON.out.symm).2 h2
            have HE1 : Hid (e1 + 1 = e0 ∧ oN / 2 = 2 ^ e1) := ⟨he1, hne⟩
            clear he1 hne
            go_upto_region 11 with (fail)
            go_cut [14, 15] from 63 to 66 (fun v14 v wc => v14 = .int .i64 ((oN / 2 : Nat) : Int) ∧ v = .int .i64 ((c % oN : Nat) : Int) ∧ w = wc)
            case first =>
              go_wp2_with fail
              go_meet
              case rel => exact ⟨by first | rfl | (congr 1; omega), rfl, rfl⟩
            case rest =>
              obtain ⟨rfl, rfl, rfl⟩ := hcut
              go_step
              exact t0a (g := ⟨0, 0, 0, 0, oN / 2, oN, kn, spOf e0 (e1), e1, e0⟩) (nx := c % oN) (FIN.out (oN / 2) (e1) HE1.out.2 (.inr (.inr HE1.out.1))).1 rfl HK.out.2.2 HK.out.1 (by omega) HK.out.2.1 (by omega) (Nat.mod_lt _ ho4) (FIN.out (oN / 2) (e1) HE1.out.2 (.inr (.inr HE1.out.1))).2 ho3 (Stay.refl _ _ w)
          · have hd3 : decide ((2 : Int) ≤ (oN : Int)) = false := decide_eq_false (by omega)
            go_upto_region 11 with (fail)
            go_cut [14, 15] from 63 to 66 (fun v14 v wc => v14 = .int .i64 ((oN : Nat) : Int) ∧ v = .int .i64 ((c % oN : Nat) : Int) ∧ w = wc)
            case first =>
              go_wp2_with fail
              go_meet
              case rel => exact ⟨by first | rfl | (congr 1; omega), rfl, rfl⟩
            case rest =>
              obtain ⟨rfl, rfl, rfl⟩ := hcut
              go_step
              exact t0a (g := ⟨0, 0, 0, 0, oN, oN, kn, spOf e0 (e0), e0, e0⟩) (nx := c % oN) (FIN.out (oN) (e0) HON.out.symm (.inr (.inl rfl))).1 rfl HK.out.2.2 HK.out.1 (by omega) HK.out.2.1 (by omega) (Nat.mod_lt _ ho4) (FIN.out (oN) (e0) HON.out.symm (.inr (.inl rfl))).2 ho3 (Stay.refl _ _ w)
end Go.Proofs.Ybulkeaqa
