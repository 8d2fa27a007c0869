/- S6357B: a chain is the same as its list. -/
import Derived.Test.YbulkeaqaBMake
namespace Go.Proofs.Ybulkeaqa
open Go.RowKit Go.Shelf
set_option linter.unusedSimpArgs false
attribute [local go_sem] Oper.semAt_some

def ptq (Bh oh : Nat) (ov : Nat → Nat) (n t : Nat) : Option Addr := if t < nbk n then some ⟨blk Bh ov t, off oh t, none⟩ else none
theorem nxt_ptq (Bh oh : Nat) (ov : Nat → Nat) (n t : Nat) : nxt ov n t = .pointer (ptq Bh oh ov n (t + 1)) := by
  unfold nxt ptq blk off
  rw [if_neg (show ¬ t + 1 = 0 by omega), if_neg (show ¬ t + 1 = 0 by omega)]

set_option maxHeartbeats 4000000 in
set_option maxRecDepth 100000 in
theorem same_tail {es : List Ent} (hl : es.length ≤ 1000000) {Bh N oh : Nat} {F : Nat → Value} {ov : Nat → Nat} {sA : Option Addr} {Bl c : Nat} {w : World} (hR : Row w Bh N 39 F) (hN : oh + 25 ≤ N) (hC : Chain w Bh oh F ov es) (hV : Lv w sA Bl es) {x2 x3 x8 x9 x10 x11 x12 x13 x14 x15 x16 x17 x18 x19 x20 x21 x22 x23 x24 x25 x26 x27 x28 x29 x30 x31 x32 x33 x34 x35 x36 x37 x38 x39 x40 x41 x42 x43 x44 x45 x46 x47 x48 x49 x50 x51 x52 x53 x54 x55 x56 x57 x58 x59 x60 x61 x62 x63 x64 x65 x66 x67 x68 x69 x70 x71 x72 x73 x74 x75 x76 x77 x78 x79 x80 x81 x82 x83 x84 x85 x86 x87 x88 x89 x90 x91 x92 x93 x94 x95 x96 x97 x98 x99 x100 x101 x102 x103 x104 x105 x106 x107 : Value} :
    Code.wp Yba.prog (dropSeq 4 (bodyOf Yba.f11)) (bodyPost Yba.prog Yba.f11 fun r w' => r = .returned (.bool true) ∧ Stay w.heap.size (fun _ => False) w w')
      { tmps := #[.pointer (some ⟨Bh, oh, none⟩), .slice sA es.length c, x2, x3, .bool false, .int .i64 (nbk es.length : Nat), .int .i64 0, .int .i64 0, x8, x9, x10, x11, x12, x13, x14, x15, x16, x17, x18, x19, x20, x21, x22, x23, x24, x25, x26, x27, x28, x29, x30, x31, x32, x33, x34, x35, x36, x37, x38, x39, x40, x41, x42, x43, x44, x45, x46, x47, x48, x49, x50, x51, x52, x53, x54, x55, x56, x57, x58, x59, x60, x61, x62, x63, x64, x65, x66, x67, x68, x69, x70, x71, x72, x73, x74, x75, x76, x77, x78, x79, x80, x81, x82, x83, x84, x85, x86, x87, x88, x89, x90, x91, x92, x93, x94, x95, x96, x97, x98, x99, x100, x101, x102, x103, x104, x105, x106, x107], defers := [] } w := by
  have HH : Hid (Row w Bh N 39 F ∧ oh + 25 ≤ N ∧ Chain w Bh oh F ov es ∧ Lv w sA Bl es) := ⟨hR, hN, hC, hV⟩
  clear hR hN hC hV
  have hnp := nbk_pos es.length
  have hnb : nbk es.length ≤ 1000000 := by unfold nbk; split <;> omega
  have HNB : Hid (es.length ≤ 8 * nbk es.length ∧ (es.length = 0 → nbk es.length = 1) ∧ (0 < es.length → 8 * nbk es.length ≤ es.length + 7)) := by unfold nbk; refine ⟨?_, ?_, ?_⟩ <;> split <;> omega
  conv => arg 2; whnf
  go_wp2_with fail
  go_loopg [6, 7, 8] (nbk es.length) (fun g vi vn p wr => ∃ t : Nat, t + g = nbk es.length ∧ vi = .int .i64 (min (8 * t) es.length : Nat) ∧ vn = .int .i64 t ∧ p = .pointer (ptq Bh oh ov es.length t) ∧ Stay w.heap.size (fun _ => False) w wr)
  case atStart =>
    refine ⟨0, by omega, by simp, rfl, ?_, Stay.refl _ _ w⟩
    unfold ptq; rw [if_pos hnp]; rfl
  case round =>
    rename World => wo
    obtain ⟨t, htg, rfl, rfl, rfl, hS⟩ := hrel
    have HS : Hid (Stay w.heap.size (fun _ => False) w wo) := hS
    have HT : Hid (t + gk = nbk es.length) := htg
    have htl : t ≤ nbk es.length := by omega
    clear hS htg
    by_cases hlt : t < nbk es.length
    · have hpt : ptq Bh oh ov es.length t = some ⟨blk Bh ov t, off oh t, none⟩ := by unfold ptq; rw [if_pos hlt]
      rw [hpt]
      have HPT : Hid _ := hpt
      clear hpt
      have hgt : decide ((nbk es.length : Int) < (t : Int) + 1) = false := decide_eq_false (by omega)
      go_upto_region 11 with (fail)
      go_wp2_with fail
      go_loopw [6, 9] (fun vi vs wr => ∃ s : Nat, s ≤ 8 ∧ vi = .int .i64 (min (8 * t + s) es.length : Nat) ∧ vs = .int .i64 s ∧ Stay w.heap.size (fun _ => False) w wr) (fun _ v _ => 8 - (intOf v).toNat)
      case atStart => exact ⟨0, by omega, rfl, rfl, HS.out⟩
      case round =>
        obtain ⟨s, hs8, rfl, rfl, hS2⟩ := hrel
        have HS2 : Hid (Stay w.heap.size (fun _ => False) w wr) := hS2
        have hcell : ∀ k, k < 25 → wr.cell? ⟨blk Bh ov t, off oh t + k, none⟩ = some (bcell es (nxt ov es.length t) t k) := fun k hk => hS2.some (HH.out.2.2.1.cell HH.out.1 HH.out.2.1 hlt hk)
        have HCE : Hid (∀ k, k < 25 → wr.cell? ⟨blk Bh ov t, off oh t + k, none⟩ = some (bcell es (nxt ov es.length t) t k)) := hcell
        clear hS2 hcell HS
        by_cases hs : s < 8
        · have g0 := HCE.out s (by omega)
          have g1 := HCE.out (8 + s) (by omega)
          have g2 := HCE.out (16 + s) (by omega)
          rw [bcell_t _ _ _ hs] at g0
          rw [bcell_k _ _ _ hs, ← Nat.add_assoc] at g1
          rw [bcell_v _ _ _ hs, ← Nat.add_assoc] at g2
          by_cases hq : 8 * t + s < es.length
          · have hmin : min (8 * t + s) es.length = 8 * t + s := by omega
            rw [hmin]
            have V1 := HH.out.2.2.2.stay HS2.out (fun h0 => ⟨HH.out.2.2.2.lt h0, id⟩)
            have ea := V1.at_ (by omega)
            subst ea
            have c0 := V1.tag _ hq
            have c1 := V1.key _ hq
            have c2 := V1.val _ hq
            generalize hqq : 8 * t + s = q at hq g0 g1 g2 c0 c1 c2 ⊢
            have HQQ : Hid (8 * t + s = q) := hqq
            clear hqq hmin V1
            go_upto_region 16 with (fail)
            have E1 := Row.new wr #[.int .u8 (tg es q : Nat), .int .u64 (ky es q : Nat), .int .i64 (vl es q : Nat)] 31 (fun j => #[Value.int .u8 (tg es q : Nat), .int .u64 (ky es q : Nat), .int .i64 (vl es q : Nat)].getD j undef) (fun j hj => by
              have h9 : j < 3 := hj
              rcases (show j = 0 ∨ j = 1 ∨ j = 2 by omega) with rfl | rfl | rfl <;> rfl)
            have S1 : Stay wr.heap.size (fun _ => False) wr (wr.alloc (.cells #[.int .u8 (tg es q : Nat), .int .u64 (ky es q : Nat), .int .i64 (vl es q : Nat)] 31)) := (Stay.refl _ _ wr).alloc (Nat.le_refl _) _
            have d0 := E1.cell (k := 0) (by simp)
            have d1 := E1.cell (k := 1) (by simp)
            have d2 := E1.cell (k := 2) (by simp)
            have k0 := S1.some g0
            have k1 := S1.some g1
            have k2 := S1.some g2
            generalize wr.alloc (.cells #[.int .u8 (tg es q : Nat), .int .u64 (ky es q : Nat), .int .i64 (vl es q : Nat)] 31) = w1 at E1 S1 d0 d1 d2 k0 k1 k2 ⊢
            have HS3 : Hid _ := HS2.out.next S1
            clear E1 S1 c0 c1 c2 g0 g1 g2
            go_quiet (fail)
            go_wp2_with fail
            have hq2 := HQQ.out
            refine ⟨⟨s + 1, by omega, ?_, by go_num, HS3.out.drewN nq⟩, by simp [intOf]; omega⟩
            rw [show min (8 * t + (s + 1)) es.length = q + 1 by omega]; rfl
          · have hmin : min (8 * t + s) es.length = es.length := by omega
            have hpast := tg_past (es := es) (q := 8 * t + s) (by omega)
            rw [hpast.1] at g0
            rw [hpast.2.1] at g1
            rw [hpast.2.2] at g2
            have HM : Hid (min (8 * t + s) es.length = es.length ∧ es.length ≤ 8 * t + s) := ⟨hmin, by omega⟩
            rw [hmin]
            clear hmin hpast hq
            go_wp2_with fail
            have hq2 := HM.out
            refine ⟨⟨s + 1, by omega, ?_, by go_num, HS2.out⟩, by simp [intOf]; omega⟩
            rw [show min (8 * t + (s + 1)) es.length = es.length by omega]
        · have e8 : s = 8 := by omega
          subst e8
          have g24 := HCE.out 24 (by omega)
          rw [bcell_o, nxt_ptq Bh oh] at g24
          go_wp2_with fail
          have hT := HT.out
          go_roundg (gk - 1)
          case measure => omega
          case rel =>
            exact ⟨t + 1, by omega, rfl, by go_num, rfl, HS2.out⟩
    · have hpt : ptq Bh oh ov es.length t = none := by unfold ptq; rw [if_neg hlt]
      have et : t = nbk es.length := by omega
      have hmin : min (8 * t) es.length = es.length := by have := HNB.out.1; omega
      rw [hpt, hmin, et]
      clear hpt hmin
      go_wp2_with fail
      go_ret
      exact ⟨rfl, HS.out⟩

set_option maxHeartbeats 4000000 in
set_option maxRecDepth 100000 in
theorem same_any (es : List Ent) (hl : es.length ≤ 1000000) (Bh N oh : Nat) (F : Nat → Value) (ov : Nat → Nat) (sA : Option Addr) (Bl c : Nat) (w : World) (hR : Row w Bh N 39 F) (hN : oh + 25 ≤ N) (hC : Chain w Bh oh F ov es) (hV : Lv w sA Bl es) :
    Calls Yba.prog 11 #[.pointer (some ⟨Bh, oh, none⟩), .slice sA es.length c] w fun r w' => r = .returned (.bool true) ∧ Stay w.heap.size (fun _ => False) w w' := by
  have HH : Hid (Row w Bh N 39 F ∧ oh + 25 ≤ N ∧ Chain w Bh oh F ov es ∧ Lv w sA Bl es) := ⟨hR, hN, hC, hV⟩
  clear hR hN hC hV
  go_enter Yba.func11, Yba.ntmps11
  have hen : ¬ es.length = 0 → ((es.length : Int) + 7) / 8 = ((nbk es.length : Nat) : Int) := fun h => by unfold nbk; rw [if_neg h]; omega
  have HEN : Hid _ := hen
  have HE0 : Hid (es.length = 0 → nbk es.length = 1) := fun h => by unfold nbk; rw [if_pos h]
  clear hen
  by_cases hz : es.length = 0
  · have hb : decide (((es.length : Int) + 7) / 8 < 1) = true := decide_eq_true (by omega)
    have HZ : Hid _ := hz
    have hb2 : ((es.length : Int) + 7) / 8 < 1 := by omega
    clear hz
    go_upto_region 4 with (fail)
    go_cut [6, 7] (fun a b wc => a = .int .i64 0 ∧ b = .int .i64 0 ∧ wc = w)
    case first =>
      go_wp2_with fail
      go_meet
      case rel => exact ⟨rfl, rfl, rfl⟩
    case rest =>
      obtain ⟨rfl, rfl, rfl⟩ := hcut
      go_step
      refine (congrArg (fun n : Nat => Code.wp Yba.prog _ _ { tmps := #[_, _, _, _, _, .int .i64 (n : Int), _, _, _, _, _, _, _, _, _, _, _, _, _, _, _, _, _, _, _, _, _, _, _, _, _, _, _, _, _, _, _, _, _, _, _, _, _, _, _, _, _, _, _, _, _, _, _, _, _, _, _, _, _, _, _, _, _, _, _, _, _, _, _, _, _, _, _, _, _, _, _, _, _, _, _, _, _, _, _, _, _, _, _, _, _, _, _, _, _, _, _, _, _, _, _, _, _, _, _, _, _, _], defers := [] } _) (HE0.out HZ.out)).mp ?_
      exact same_tail hl HH.out.1 HH.out.2.1 HH.out.2.2.1 HH.out.2.2.2
  · have hb : decide (((es.length : Int) + 7) / 8 < 1) = false := decide_eq_false (by omega)
    have hb2 : ¬ ((es.length : Int) + 7) / 8 < 1 := by omega
    have HZ : Hid _ := hz
    go_upto_region 4 with (fail)
    go_cut [6, 7] (fun a b wc => a = .int .i64 0 ∧ b = .int .i64 0 ∧ wc = w)
    case first =>
      go_wp2_with fail
      go_meet
      case rel => exact ⟨rfl, rfl, rfl⟩
    case rest =>
      obtain ⟨rfl, rfl, rfl⟩ := hcut
      rw [HEN.out HZ.out]
      go_step
      exact same_tail hl HH.out.1 HH.out.2.1 HH.out.2.2.1 HH.out.2.2.2
end Go.Proofs.Ybulkeaqa
