/- S6350A: settle, the walk behind its first loop. -/
import Derived.Test.YbulkeamgSet3W
namespace Go.Proofs.Ybulkeamg
open Go.RowKit
set_option linter.unusedSimpArgs false

set_option maxHeartbeats 4000000 in
set_option maxRecDepth 100000 in
theorem settle2 {n : Nat} {m : Int} {p L : Nat} {FQ : Nat → Nat} {w0 ws w : World} {Bb : Nat} {B Bw cw : Nat → Nat} {base : Nat} {sA : Option Addr} {Bf cf : Nat} {vT : Value} {lo h W : Nat} {x3 x4 x5 x11 x12 x13 x14 x15 x16 x17 x18 x19 x20 x21 x22 x23 x24 x25 x26 x27 x28 x29 x30 x31 x32 x33 x34 x35 x36 x37 x38 x39 x40 x41 x42 x43 x44 x45 x46 x47 x48 x49 x50 x51 x52 x53 x54 x55 x56 x57 x58 x59 x60 x61 x62 x63 x64 x65 x66 x67 x68 x69 x70 x71 x72 x73 x74 x75 x76 x77 x78 x79 x80 x81 x82 x83 x84 x85 x86 x87 x88 x89 x90 x91 x92 x93 x94 x95 x96 x97 x98 x99 x100 x101 x102 x103 x104 x105 x106 x107 x108 x109 x110 x111 x112 x113 x114 x115 x116 x117 x118 x119 x120 x121 x122 x123 x124 x125 x126 x127 x128 x129 x130 x131 x132 x133 x134 x135 x136 x137 x138 x139 x140 x141 x142 x143 x144 x145 x146 x147 x148 x149 x150 x151 x152 x153 x154 x155 x156 x157 x158 x159 x160 x161 x162 x163 x164 x165 x166 x167 x168 x169 x170 x171 x172 x173 x174 x175 x176 x177 x178 x179 x180 x181 x182 x183 x184 x185 x186 x187 x188 x189 x190 x191 x192 x193 x194 x195 x196 x197 x198 x199 x200 x201 : Value}
    (hA : Ask n m p L FQ w0 ws Bb B Bw cw base sA Bf) (hS : S2 n m p L FQ ws w Bb B vT) (hlo : loK p FQ L = lo) (hhi : hiK p FQ L = h) (hW : h + 1 = lo + W) :
    Code.wp Yba.prog (dropSeq 7 (bodyOf Yba.f6)) (bodyPost Yba.prog Yba.f6 fun e w' => e = .returned (.tuple #[]) ∧ Left n m p L FQ ws w' Bb B)
      { tmps := #[.pointer (some ⟨Bb, 0, none⟩), .int .i64 p, .slice sA L cf, x3, x4, x5, .int .i64 1, .pointer (some ⟨B 2, p * 4, none⟩), .int .i64 0, .int .i64 lo, .int .i64 ((h : Int) + 1), x11, x12, x13, x14, x15, x16, x17, x18, x19, x20, x21, x22, x23, x24, x25, x26, x27, x28, x29, x30, x31, x32, x33, x34, x35, x36, x37, x38, x39, x40, x41, x42, x43, x44, x45, x46, x47, x48, x49, x50, x51, x52, x53, x54, x55, x56, x57, x58, x59, x60, x61, x62, x63, x64, x65, x66, x67, x68, x69, x70, x71, x72, x73, x74, x75, x76, x77, x78, x79, x80, x81, x82, x83, x84, x85, x86, x87, x88, x89, x90, x91, x92, x93, x94, x95, x96, x97, x98, x99, x100, x101, x102, x103, x104, x105, x106, x107, x108, x109, x110, x111, x112, x113, x114, x115, x116, x117, x118, x119, x120, x121, x122, x123, x124, x125, x126, x127, x128, x129, x130, x131, x132, x133, x134, x135, x136, x137, x138, x139, x140, x141, x142, x143, x144, x145, x146, x147, x148, x149, x150, x151, x152, x153, x154, x155, x156, x157, x158, x159, x160, x161, x162, x163, x164, x165, x166, x167, x168, x169, x170, x171, x172, x173, x174, x175, x176, x177, x178, x179, x180, x181, x182, x183, x184, x185, x186, x187, x188, x189, x190, x191, x192, x193, x194, x195, x196, x197, x198, x199, x200, x201], defers := [] } w := by
  have HA : Hid _ := hA
  have HS : Hid _ := hS
  have hp := hA.p1
  have hn := hA.n1
  have hl := hA.l1
  have hh3 := hi_lt hA.p1 hA.n1 L hA.q1
  rw [hhi] at hh3
  obtain ⟨hlp, hph⟩ := lo_le p FQ L
  rw [hlo] at hlp
  rw [hhi] at hph
  have HE : Hid (loK p FQ L = lo ∧ hiK p FQ L = h) := ⟨hlo, hhi⟩
  have r7 := hS.book.cell (k := 7) (by omega)
  rw [upd_ne _ _ (by omega), show bookF n m B 7 = .slice (some ⟨B 3, 0, none⟩) n n from rfl] at r7
  have l3 := hA.book.low 3 (by omega)
  have l7 := hA.book.low 7 (by omega)
  have lb := hA.book.lowb
  have hsz := hA.book.size
  have n3 : Row w (B 3) (n * 4) 38 zF := hA.book.next.stay hS.stay (by omega) (fun e => e.elim (fun e => l3.2.2 e) (hA.book.ne 3 7 (by omega) (by omega) (by omega)))
  have HC1 : Hid _ := reset_any (B 3) (p * 4) (n * 4) 38 zF 1 lo W w n3 (by omega) (zF3 p) (by omega) (by omega) (by omega) (by omega) (2 * W) (h + 1) (by omega) (by omega) (by omega)
  clear hlo hhi hA hS n3
  conv => arg 2; whnf
  go_upto_region 17 with (go_at_call 10; refine Calls.mono HC1.out ?_; rintro e w1 ⟨rfl, c, hc, hcm, R1, N1, S1, Z1⟩)
  have hL0 := L2.start HS.out (by omega) (by omega) (by omega) (Ne.symm l3.2.2) (HA.out.book.ne 7 3 (by omega) (by omega) (by omega)) R1 N1 S1 hc hcm
  obtain ⟨_, _, _, ⟨k0, _, _, _⟩, hor, hcw⟩ := hL0.reads HA.out
  have k0' : w1.cell? ⟨B 3, p * 4, none⟩ = some (.int .i64 0) := k0
  obtain ⟨d, hd⟩ : ∃ d, p / 64 = lo + d := ⟨p / 64 - lo, by omega⟩
  have hpw : ∀ v : Nat, (2 : Nat) ^ (v % 64) < 18446744073709551616 := fun v => Nat.lt_of_lt_of_le (Nat.pow_lt_pow_right (by decide) (show v % 64 < 64 by omega)) (by decide)
  have HP : Hid _ := hpw
  have HC2 : Hid _ := or_any (B 2) (p * 4) (p / 64) (Bw p) (cw p) (B 3) (p * 4) lo W (2 * W) c w.heap.size d (2 ^ (p % 64)) 0 w1 (hor p d hp (by omega)) (by omega) (hcw p hp).1 (hcw p hp).2 (by omega) (by omega) (by omega) (by omega) (by omega) hc (by omega) hcm (hpw p) (by omega)
  have H0 : Hid _ := hL0
  have hlb : Bb < ws.heap.size ∧ B 7 < ws.heap.size ∧ B 3 < ws.heap.size := by omega
  have HLB : Hid _ := hlb
  clear R1 N1 S1 Z1 HC1 k0 hor hcw hL0 r7 l3 l7 lb hsz hpw hlb
  go_wp2_with (go_at_call 12; refine Calls.mono HC2.out ?_; rintro e w2 ⟨rfl, q2, e2⟩; have E2 : Hid _ := e2; clear e2)
  have hL1 := (H0.out.set HLB.out.1 HLB.out.2.1 HLB.out.2.2 d (0 ||| 2 ^ (p % 64))).drewN q2
  rw [← E2.out, gW_first p FQ lo W d (by omega) hd] at hL1
  have H1 : Hid _ := hL1
  clear H0 hL1 E2 HC2 k0'
  go_loopw [149] (fun v wr => ∃ k : Nat, k ≤ L ∧ v = .int .i64 k ∧ L2 n m p L FQ ws wr Bb B vT lo W w.heap.size c (gW (inn p FQ k) lo W)) (fun v _ => L - (intOf v).toNat)
  case atStart => exact ⟨0, Nat.zero_le _, rfl, H1.out⟩
  case round =>
    obtain ⟨k, hk, rfl, hL⟩ := hrel
    clear H1
    have H2 : Hid _ := hL
    obtain ⟨r0, r6, rn, ⟨k0, k1, k2, k3⟩, hor, hcw⟩ := hL.reads HA.out
    have k0' : wr.cell? ⟨B 3, p * 4, none⟩ = some (.int .i64 0) := k0
    by_cases hlt : k < L
    · obtain ⟨es, _⟩ := HA.out.at_ (by omega)
      subst es
      have hq := HA.out.q1 k hlt
      have c0 := r0 k hlt
      by_cases hqp : FQ k = p
      · have hqb : (((FQ k : Nat) : Int) != (p : Int)) = false := by simp [hqp]
        have Hqp : Hid (FQ k = p) := hqp
        clear hqp r0 hor hcw hL k0
        go_wp2_with fail
        refine ⟨⟨k + 1, by omega, by go_num, ?_⟩, by simp [intOf]; omega⟩
        have e : inn p FQ (k + 1) = inn p FQ k := funext fun v => inn_skip Hqp.out v
        rw [e]; exact H2.out
      · have hqb : (((FQ k : Nat) : Int) != (p : Int)) = true := by simp; omega
        obtain ⟨hla, hlb⟩ := lo_at (p := p) (FQ := FQ) hlt
        rw [HE.out.1] at hla
        rw [HE.out.2] at hlb
        obtain ⟨dq, hdq⟩ : ∃ d, FQ k / 64 = lo + d := ⟨FQ k / 64 - lo, by omega⟩
        have HC3 : Hid _ := fun u => or_any (B 2) (FQ k * 4) (FQ k / 64) (Bw (FQ k)) (cw (FQ k)) (B 3) (p * 4) lo W (2 * W) c w.heap.size dq (2 ^ (FQ k % 64)) (gW (inn p FQ k) lo W dq) (wr.drewN u) (((hL.drewN u).reads HA.out).2.2.2.2.1 (FQ k) dq hq (by omega)) (by omega) (hcw _ hq).1 (hcw _ hq).2 (by omega) (by omega) (by omega) (by omega) (by omega) hc (by omega) hcm (HP.out _) (gW_lt _ _ _ _)
        have Hqp : Hid (¬ FQ k = p) := hqp
        clear hqp r0 hor hcw hL k0
        go_upto_region 22 with (fail)
        go_region_with (go_at_call 12; refine Calls.mono (HC3.out 1) ?_; rintro e w3 ⟨rfl, q3, e3⟩; have E3 : Hid _ := e3; clear e3)
        all_goals
          go_wp2_with fail
          refine ⟨⟨k + 1, by omega, by go_num, ?_⟩, by simp [intOf]; omega⟩
          have hL3 := ((H2.out.drewN 1).set HLB.out.1 HLB.out.2.1 HLB.out.2.2 dq (gW (inn p FQ k) lo W dq ||| 2 ^ (FQ k % 64))).drewN q3
          rw [gW_next p FQ k lo W dq (by omega) hdq] at hL3
          rw [E3.out]
          exact hL3
    · have ek : k = L := by omega
      subst ek
      clear r0 hor hcw
      go_upto_if 150 with (fail)
      go_step
      go_step
      go_step
      go_step
      go_step
      go_step
      exact settle3 HA.out H2.out HE.out.1 HE.out.2 hW
end Go.Proofs.Ybulkeamg
