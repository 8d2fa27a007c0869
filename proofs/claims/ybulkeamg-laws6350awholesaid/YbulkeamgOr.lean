/- S6350A: roundSets.orRounds, one round, the source one word wide. -/
import Derived.Test.YbulkeamgDrop
namespace Go.Proofs.Ybulkeamg
open Go.RowKit
set_option linter.unusedSimpArgs false

/-- The source: one round, one word. The target: rounds 0 and 1, W words from f on. -/
structure OrAt (w : World) (R o s Bs cs R2 o2 f W n c Bw d : Nat) (x g : Int) : Prop where
  s0 : w.cell? ⟨R, o, none⟩ = some (.int .i64 0)
  s1 : w.cell? ⟨R, o + 1, none⟩ = some (.int .i64 s)
  s2 : w.cell? ⟨R, o + 2, none⟩ = some (.int .i64 1)
  s3 : w.cell? ⟨R, o + 3, none⟩ = some (.slice (some ⟨Bs, 0, none⟩) 1 cs)
  sx : w.cell? ⟨Bs, 0, none⟩ = some (.int .u64 x)
  t0 : w.cell? ⟨R2, o2, none⟩ = some (.int .i64 0)
  t1 : w.cell? ⟨R2, o2 + 1, none⟩ = some (.int .i64 f)
  t2 : w.cell? ⟨R2, o2 + 2, none⟩ = some (.int .i64 W)
  t3 : w.cell? ⟨R2, o2 + 3, none⟩ = some (.slice (some ⟨Bw, 0, none⟩) n c)
  tg : w.cell? ⟨Bw, d, none⟩ = some (.int .u64 g)
  tf : w.frozen? ⟨Bw, d, none⟩ = false

set_option maxHeartbeats 1000000 in
theorem or_same (R o s Bs cs R2 o2 n c Bw : Nat) (x g : Int) (w : World) (h : OrAt w R o s Bs cs R2 o2 s 1 n c Bw 0 x g) (_hs : s ≤ 1000) (hcs : 1 ≤ cs) (hcs2 : cs ≤ maxLen) (hn : 1 ≤ n) (hnc : n ≤ c) (hc : c ≤ maxLen) :
    Calls Yba.prog 12 #[.pointer (some ⟨R, o, none⟩), .pointer (some ⟨R2, o2, none⟩), .int .i64 0, .int .i64 1] w fun e w' => e = .returned (.tuple #[]) ∧ ∃ q, w' = (w.setCell ⟨Bw, 0, none⟩ (.int .u64 (bits .or .u64 g x))).drewN q := by
  obtain ⟨s0, s1, s2, s3, sx, t0, t1, t2, t3, tg, tf⟩ := h
  unfold maxLen at hcs2 hc
  go_enter Yba.func12, Yba.ntmps12
  go_upto_region 1 with (fail)
  go_quiet (fail)
  go_wp2_with fail
  go_quiet (fail)
  go_wp2_with fail
  go_quiet (fail)
  go_wp2_with fail
  go_loopw [88] (fun v wr => ∃ q : Nat, (v = .int .i64 0 ∧ wr = w.drewN q) ∨ (v = .int .i64 1 ∧ wr = (w.setCell ⟨Bw, 0, none⟩ (.int .u64 (bits .or .u64 g x))).drewN q)) (fun v _ => 1 - (intOf v).toNat)
  case atStart => exact ⟨_, .inl ⟨rfl, rfl⟩⟩
  case round =>
    obtain ⟨q, ⟨rfl, rfl⟩ | ⟨rfl, rfl⟩⟩ := hrel
    · go_wp2_with fail
      exact ⟨⟨q, .inr ⟨rfl, rfl⟩⟩, by simp [intOf]⟩
    · go_wp2_with fail
      exact bodyPost_ret (results_none rfl _ _ _) rfl ⟨rfl, q, rfl⟩

theorem quiet_add {P : Program} {f : FuncId} {args : Array Value} {w : World} {a n : Nat} {v : Value}
    (h : Calls P f args (w.drewN (a + n)) fun e w' => e = .returned v ∧ ∃ m, w' = (w.drewN (a + n)).drewN m) : Calls P f args (w.drewN (a + n)) fun e w'' => e = .returned v ∧ ∃ m, w'' = w.drewN (a + m) :=
  h.mono fun _ _ ⟨he, m, hm⟩ => ⟨he, n + m, by rw [hm, World.drewN_drewN, Nat.add_assoc]⟩

set_option maxHeartbeats 1000000 in
set_option maxRecDepth 100000 in
theorem or_wide (R o s Bs cs R2 o2 f W n c Bw d : Nat) (x g : Int) (w : World) (h : OrAt w R o s Bs cs R2 o2 f W n c Bw d x g) (hdf : ¬ (s = f ∧ W = 1)) (hs : s ≤ 1000) (hcs : 1 ≤ cs) (hcs2 : cs ≤ maxLen) (hf : f ≤ s) (hd : (s : Int) - f = d) (hW : d < W) (hW2 : W ≤ 1000) (hnc : W ≤ c) (hc : c ≤ maxLen) :
    Calls Yba.prog 12 #[.pointer (some ⟨R, o, none⟩), .pointer (some ⟨R2, o2, none⟩), .int .i64 0, .int .i64 1] w fun e w' => e = .returned (.tuple #[]) ∧ ∃ q, w' = (w.setCell ⟨Bw, d, none⟩ (.int .u64 (bits .or .u64 g x))).drewN q := by
  have HA : Hid _ := fun q => at_any R o 0 1 0 1 cs Bs 0 (w.drewN q) h.s0 h.s2 h.s3 (by simp) (by omega) (by omega) (by omega) (by omega) (by omega) (by omega) hcs2
  have HB : Hid _ := fun q => at_any R2 o2 0 W 0 n c Bw 0 (w.drewN q) h.t0 h.t2 h.t3 (by simp) (by omega) (by omega) (by omega) (by omega) (by omega) (by omega) hc
  obtain ⟨s0, s1, s2, s3, sx, t0, t1, t2, t3, tg, tf⟩ := h
  unfold maxLen at hcs2 hc
  have hdd : (d : Int) ≤ W := by omega
  have hd0 : s = f → d = 0 := by omega
  have hwx : IntKind.i64.wrap ((s : Int) - f) = d := by rw [IntKind.wrap_i64]; omega
  have hwx2 : wrap64 ((s : Int) - f) = d := by unfold wrap64; omega
  have hW1 : s = f → ¬ W = 1 := by omega
  clear hdf hf hd
  by_cases hsf : s = f
  · have hW1' : ¬ W = 1 := hW1 hsf
    have hd0' := hd0 hsf
    subst hsf
    subst hd0'
    have hW2' : ((1 : Int) == (W : Int)) = false := by simp; omega
    clear hW1 hd0 hwx hwx2 hW1'
    go_enter Yba.func12, Yba.ntmps12
    go_upto_region 1 with (fail)
    go_quiet (fail)
    go_wp2_with fail
    go_loopw [12] (fun v wr => ∃ q : Nat, (v = .int .i64 0 ∧ wr = w.drewN q) ∨ (v = .int .i64 1 ∧ wr = (w.setCell ⟨Bw, 0, none⟩ (.int .u64 (bits .or .u64 g x))).drewN q)) (fun v _ => 1 - (intOf v).toNat)
    case atStart => exact ⟨_, .inl ⟨rfl, rfl⟩⟩
    case round =>
      obtain ⟨q, ⟨rfl, rfl⟩ | ⟨rfl, rfl⟩⟩ := hrel
      · go_upto_region 13 with (go_at_call 13; refine Calls.mono (HA.out _) ?_; rintro e w2 ⟨rfl, q2, rfl⟩)
        go_quiet ((go_at_call 13; exact quiet_add (HB.out _)))
        go_wp2_with fail
        go_loopw [125] (fun v wr => ∃ q : Nat, (v = .int .i64 0 ∧ wr = w.drewN q) ∨ (v = .int .i64 1 ∧ wr = (w.setCell ⟨Bw, 0, none⟩ (.int .u64 (bits .or .u64 g x))).drewN q)) (fun v _ => 1 - (intOf v).toNat)
        case atStart => exact ⟨_, .inl ⟨rfl, rfl⟩⟩
        case round =>
          obtain ⟨q, ⟨rfl, rfl⟩ | ⟨rfl, rfl⟩⟩ := hrel
          · go_wp2_with fail
            exact ⟨⟨q, .inr ⟨rfl, rfl⟩⟩, by simp [intOf]⟩
          · go_wp2_with fail
            go_roundw
            case rel => exact ⟨q, .inr ⟨rfl, rfl⟩⟩
            case measure => simp [intOf]
      · go_wp2_with fail
        go_end0
        exact ⟨rfl, q, rfl⟩
  · clear hW1 hd0
    have hdf : decide ((s : Int) = (f : Int)) = false := decide_eq_false (by omega)
    have hdf2 : ((s : Int) == (f : Int)) = false := by simp; omega
    clear hsf
    go_enter Yba.func12, Yba.ntmps12
    go_upto_region 1 with (fail)
    go_quiet (fail)
    go_wp2_with fail
    go_loopw [12] (fun v wr => ∃ q : Nat, (v = .int .i64 0 ∧ wr = w.drewN q) ∨ (v = .int .i64 1 ∧ wr = (w.setCell ⟨Bw, d, none⟩ (.int .u64 (bits .or .u64 g x))).drewN q)) (fun v _ => 1 - (intOf v).toNat)
    case atStart => exact ⟨_, .inl ⟨rfl, rfl⟩⟩
    case round =>
      obtain ⟨q, ⟨rfl, rfl⟩ | ⟨rfl, rfl⟩⟩ := hrel
      · go_upto_region 13 with (go_at_call 13; refine Calls.mono (HA.out _) ?_; rintro e w2 ⟨rfl, q2, rfl⟩)
        go_quiet ((go_at_call 13; exact quiet_add (HB.out _)))
        go_wp2_with fail
        go_loopw [125] (fun v wr => ∃ q : Nat, (v = .int .i64 0 ∧ wr = w.drewN q) ∨ (v = .int .i64 1 ∧ wr = (w.setCell ⟨Bw, d, none⟩ (.int .u64 (bits .or .u64 g x))).drewN q)) (fun v _ => 1 - (intOf v).toNat)
        case atStart => exact ⟨_, .inl ⟨rfl, rfl⟩⟩
        case round =>
          obtain ⟨q, ⟨rfl, rfl⟩ | ⟨rfl, rfl⟩⟩ := hrel
          · go_wp2_with fail
            exact ⟨⟨q, .inr ⟨rfl, rfl⟩⟩, by simp [intOf]⟩
          · go_wp2_with fail
            go_roundw
            case rel => exact ⟨q, .inr ⟨rfl, rfl⟩⟩
            case measure => simp [intOf]
      · go_wp2_with fail
        go_end0
        exact ⟨rfl, q, rfl⟩
end Go.Proofs.Ybulkeamg
