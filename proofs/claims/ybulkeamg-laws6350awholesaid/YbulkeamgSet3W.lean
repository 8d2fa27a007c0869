/- S6350A: settle, its end. -/
import Derived.Test.YbulkeamgSet2
namespace Go.Proofs.Ybulkeamg
open Go.RowKit
set_option linter.unusedSimpArgs false

theorem gB_of (S : Nat → Bool) (p lo W d : Nat) (hd : d < W) (hq : p / 64 = lo + d) : updN (gW S lo W) (W + d) (0 ||| 2 ^ (p % 64)) = gB S p lo W := by
  funext j
  simp only [updN]
  split
  · rename_i e; subst e
    unfold gB
    rw [if_neg (by omega), if_pos (by omega), wordOf_one, if_pos (by omega)]
    simp
  · rename_i e
    unfold gB gW
    split
    · rfl
    · split
      · rw [wordOf_one, if_neg (by omega)]
      · rfl

set_option maxHeartbeats 4000000 in
set_option maxRecDepth 100000 in
theorem settle3 {n : Nat} {m : Int} {p L : Nat} {FQ : Nat → Nat} {w0 ws w : World} {Bb : Nat} {B Bw cw : Nat → Nat} {base : Nat} {sA : Option Addr} {Bf : Nat} {vT : Value} {lo h W Bx c : Nat} {x2 x3 x4 x5 x7 x8 x9 x10 x11 x12 x13 x15 x16 x17 x18 x19 x20 x21 x22 x23 x24 x25 x26 x27 x28 x29 x30 x31 x32 x33 x34 x35 x36 x37 x38 x39 x40 x41 x42 x43 x44 x45 x46 x47 x48 x49 x50 x51 x52 x53 x54 x55 x56 x57 x58 x59 x60 x61 x62 x63 x64 x65 x66 x67 x68 x69 x70 x71 x72 x73 x74 x75 x76 x77 x78 x79 x80 x81 x82 x83 x84 x85 x86 x87 x88 x89 x90 x91 x92 x93 x94 x95 x96 x97 x98 x99 x100 x101 x102 x103 x104 x105 x106 x107 x108 x109 x110 x111 x112 x113 x114 x115 x116 x117 x118 x119 x120 x121 x122 x123 x124 x125 x126 x127 x128 x129 x130 x131 x132 x133 x134 x135 x136 x137 x138 x139 x140 x141 x142 x143 x144 x145 x146 x147 x148 x149 x150 x151 x152 x153 x154 x155 x156 x157 x158 x159 x160 x161 x162 x163 x164 x165 x166 x167 x168 x169 x170 x171 x172 x173 x174 x175 x176 x177 x178 x179 x180 x181 x182 x183 x184 x185 x186 x187 x188 x189 x190 x191 x192 x193 x194 x195 x196 x197 x198 x199 x200 x201 : Value}
    (hA : Ask n m p L FQ w0 ws Bb B Bw cw base sA Bf) (hL : L2 n m p L FQ ws w Bb B vT lo W Bx c (gW (inn p FQ L) lo W)) (hlo : loK p FQ L = lo) (hhi : hiK p FQ L = h) (hW : h + 1 = lo + W) :
    Code.wp Yba.prog (dropSeq 11 (bodyOf Yba.f6)) (bodyPost Yba.prog Yba.f6 fun e w' => e = .returned (.tuple #[]) ∧ Left n m p L FQ ws w' Bb B)
      { tmps := #[.pointer (some ⟨Bb, 0, none⟩), .int .i64 p, x2, x3, x4, x5, .int .i64 1, x7, x8, x9, x10, x11, x12, x13, .pointer (some ⟨B 3, p * 4, none⟩), x15, x16, x17, x18, x19, x20, x21, x22, x23, x24, x25, x26, x27, x28, x29, x30, x31, x32, x33, x34, x35, x36, x37, x38, x39, x40, x41, x42, x43, x44, x45, x46, x47, x48, x49, x50, x51, x52, x53, x54, x55, x56, x57, x58, x59, x60, x61, x62, x63, x64, x65, x66, x67, x68, x69, x70, x71, x72, x73, x74, x75, x76, x77, x78, x79, x80, x81, x82, x83, x84, x85, x86, x87, x88, x89, x90, x91, x92, x93, x94, x95, x96, x97, x98, x99, x100, x101, x102, x103, x104, x105, x106, x107, x108, x109, x110, x111, x112, x113, x114, x115, x116, x117, x118, x119, x120, x121, x122, x123, x124, x125, x126, x127, x128, x129, x130, x131, x132, x133, x134, x135, x136, x137, x138, x139, x140, x141, x142, x143, x144, x145, x146, x147, x148, x149, x150, x151, x152, x153, x154, x155, x156, x157, x158, x159, x160, x161, x162, x163, x164, x165, x166, x167, x168, x169, x170, x171, x172, x173, x174, x175, x176, x177, x178, x179, x180, x181, x182, x183, x184, x185, x186, x187, x188, x189, x190, x191, x192, x193, x194, x195, x196, x197, x198, x199, x200, x201], defers := [] } w := by
  have HA : Hid _ := hA
  have HL : Hid _ := hL
  have hp := hA.p1
  have hn := hA.n1
  have hh3 := hi_lt hA.p1 hA.n1 L hA.q1
  rw [hhi] at hh3
  obtain ⟨hlp, hph⟩ := lo_le p FQ L
  rw [hlo] at hlp
  rw [hhi] at hph
  have HE : Hid (loK p FQ L = lo ∧ hiK p FQ L = h) := ⟨hlo, hhi⟩
  have hlb : Bb < ws.heap.size ∧ B 7 < ws.heap.size ∧ B 3 < ws.heap.size := by
    have l3 := hA.book.low 3 (by omega)
    have l7 := hA.book.low 7 (by omega)
    have lb := hA.book.lowb
    have hsz := hA.book.size
    omega
  have HLB : Hid _ := hlb
  obtain ⟨_, _, _, ⟨k0, k1, k2, k3⟩, _, _⟩ := hL.reads HA.out
  obtain ⟨d, hd⟩ : ∃ d, p / 64 = lo + d := ⟨p / 64 - lo, by omega⟩
  have hc := hL.cw
  have hcm := hL.cm
  have g0 : gW (inn p FQ L) lo W (W + d) = 0 := by unfold gW; rw [if_neg (by omega)]
  have hg := hL.words.cell (k := W + d) (by omega)
  rw [g0] at hg
  have HC1 : Hid _ := add_any (B 3) (p * 4) 0 lo W W (2 * W) c Bx 1 p d 0 w k0 k1 k2 k3 (by omega) (by omega) (by omega) (by omega) (by omega) (by omega) (by omega) hcm (by omega) (by omega) (by omega) (by omega) (by omega) hg hL.words.frozen
  clear hlo hhi hA hL k0 k1 k2 k3 hg g0 hlb
  conv => arg 2; whnf
  go_wp2_with (go_at_call 11; refine Calls.mono HC1.out ?_; rintro e w2 ⟨rfl, q2, e2⟩; have E2 : Hid _ := e2; clear e2)
  have hpw : (2 : Nat) ^ (p % 64) < 18446744073709551616 := Nat.lt_of_lt_of_le (Nat.pow_lt_pow_right (by decide) (show p % 64 < 64 by omega)) (by decide)
  have hL1 := (HL.out.set HLB.out.1 HLB.out.2.1 HLB.out.2.2 (W + d) (0 ||| 2 ^ (p % 64))).drewN q2
  have eb : bits .or .u64 0 ((2 ^ (p % 64) : Nat) : Int) = ((0 ||| 2 ^ (p % 64) : Nat) : Int) := bits_or_u64_nat 0 (2 ^ (p % 64)) (by omega) hpw
  rw [← eb, ← E2.out, gB_of _ p lo W d (by omega) hd] at hL1
  have H1 : Hid _ := hL1
  clear hL1 HC1 E2 HL eb
  go_loopw [] (fun wr => L2 n m p L FQ ws wr Bb B vT lo W Bx c (gB (inn p FQ L) p lo W) ∨ (bsum (inn p FQ L) n = n ∧ Pre n m p L FQ ws wr Bb B vT lo W Bx c 1 W (fun d => gB (inn p FQ L) p lo W (W + d)))) (fun wr => 1 - (intOf ((wr.cell? ⟨B 3, p * 4, none⟩).getD undef)).toNat)
  case atStart => exact .inl H1.out
  case round =>
    clear H1
    rcases hrel with hL | ⟨hf, hP⟩
    · have H2 : Hid _ := hL
      obtain ⟨_, _, rn, ⟨k0, k1, k2, k3⟩, _, _⟩ := hL.reads HA.out
      have k0' : wr.cell? ⟨B 3, p * 4, none⟩ = some (.int .i64 0) := k0
      have HK : Hid _ := fun q => at_any (B 3) (p * 4) 0 W 0 (2 * W) c Bx 0 (wr.drewN q) k0 k2 k3 (by omega) (by omega) (by omega) (by omega) (by omega) (by omega) (by omega) hcm
      have HN : Hid _ := fun q => count_any Bx 0 W W (fun d => wordOf (inn p FQ L) (lo + d)) (wr.drewN q) (by omega) (fun k hk => ⟨by
        have := hL.words.cell (k := 0 + k) (by omega)
        rw [Nat.zero_add] at this ⊢
        have e : gB (inn p FQ L) p lo W k = wordOf (inn p FQ L) (lo + k) := by unfold gB; rw [if_pos hk]
        rw [e] at this
        exact this, wordOf_lt _ _⟩)
      have hpc : popSum (fun d => wordOf (inn p FQ L) (lo + d)) W = bsum (inn p FQ L) n := popSum_count _ lo W n (fun v hv => by
        have := inn_word p FQ L v hv
        rw [HE.out.1, HE.out.2] at this
        omega) (fun v hv => inn_lt HA.out.p1 L v HA.out.q1 hv)
      rw [hpc] at HN
      have hbl := bsum_le (inn p FQ L) n
      have HD : Hid _ := fun q => drop_any (B 3) (p * 4) (n * 4) 38 (upd4 zF (p * 4) 0 lo W (.slice (some ⟨Bx, 0, none⟩) (2 * W) c)) 0 W c Bx (fun d => .int .u64 (gB (inn p FQ L) p lo W d)) (wr.drewN q) (hL.next.drewN q) (by omega) (by
        unfold upd4; rw [upd_ne _ _ (by omega), upd_ne _ _ (by omega), upd_ne _ _ (by omega), upd_same]) (by unfold upd4; rw [upd_ne _ _ (by omega), upd_same]) (by unfold upd4; rw [upd_same]) (hL.words.drewN q) (by have := hL.bx; have := HLB.out; omega) (by omega) (by omega) (by omega) hc hcm (fun k _ => rfl)
      clear hL k0 hpc k1 k2 k3
      by_cases hf : bsum (inn p FQ L) n = n
      · have hfb : (((bsum (inn p FQ L) n : Nat) : Int) == (n : Int)) = true := by rw [hf]; simp
        have HF : Hid (bsum (inn p FQ L) n = n) := hf
        clear hf
        go_upto_region 25 with (fail)
        go_quiet ((first
          | (go_at_call 13; exact Calls.quiet_of (HK.out _))
          | (go_at_call 14; exact Calls.quiet_of_same (Calls.mono (HN.out _) (fun e w' h => ⟨h.1, h.2.symm⟩)))))
        go_wp2_with (go_at_call 15; refine Calls.mono (HD.out nq) ?_; rintro e w3 ⟨rfl, R3, N3, S3, Z3⟩)
        have b3 := R3.cell (k := p * 4) (by omega)
        rw [upd_ne _ _ (by omega), upd_same] at b3
        refine ⟨.inr ⟨HF.out, (H2.out.drewN nq).dropped HLB.out (Ne.symm (HA.out.book.low 3 (by omega)).2.2) (HA.out.book.ne 7 3 (by omega) (by omega) (by omega)) R3 N3 S3⟩, ?_⟩
        rw [b3, k0']
        simp [intOf]
      · have hfb : (((bsum (inn p FQ L) n : Nat) : Int) == (n : Int)) = false := by simp; omega
        have HF : Hid (¬ bsum (inn p FQ L) n = n) := hf
        have H9 : Hid _ := fun q => nadd_any Bb 12 27 46 (upd (bookF n m B) 20 vT) p (wr.drewN q) (H2.out.book.drewN q) (by omega) (by rw [upd_ne _ _ (by omega)]; rfl) (by omega)
        clear hf HD
        go_upto_region 25 with (fail)
        go_quiet ((first
          | (go_at_call 13; exact Calls.quiet_of (HK.out _))
          | (go_at_call 14; exact Calls.quiet_of_same (Calls.mono (HN.out _) (fun e w' h => ⟨h.1, h.2.symm⟩)))))
        go_wp2_with (go_at_call 9; refine Calls.mono (H9.out nq) ?_; rintro e w4 ⟨rfl, cs, hcs, R4, N4, S4, Z4⟩)
        go_end0
        refine ⟨rfl, ?_⟩
        have eW : hiK p FQ L + 1 - loK p FQ L = W := by rw [HE.out.1, HE.out.2]; omega
        unfold Left
        rw [eW, HE.out.1]
        exact ⟨vT, Bx, c, _, cs, .inr ⟨HF.out, (H2.out.pre.drewN nq).done HLB.out.1 (HA.out.book.low 7 (by omega)).2.2 (HA.out.book.low 3 (by omega)).2.2 R4 N4 hcs S4⟩⟩
    · have H2 : Hid _ := hP
      obtain ⟨NX, hN, n0, _⟩ := hP.next
      have k0 := hN.cell (k := p * 4) (by omega)
      rw [n0] at k0
      have k0' : wr.cell? ⟨B 3, p * 4, none⟩ = some (.int .i64 1) := k0
      have H9 : Hid _ := fun q => nadd_any Bb 12 27 46 (upd (bookF n m B) 20 vT) p (wr.drewN q) (hP.book.drewN q) (by omega) (by rw [upd_ne _ _ (by omega)]; rfl) (by omega)
      have HF : Hid (bsum (inn p FQ L) n = n) := hf
      clear hf hP hN n0 k0
      go_upto_region 25 with (fail)
      go_quiet (fail)
      go_wp2_with (go_at_call 9; refine Calls.mono (H9.out nq) ?_; rintro e w4 ⟨rfl, cs, hcs, R4, N4, S4, Z4⟩)
      go_end0
      refine ⟨rfl, ?_⟩
      have eW : hiK p FQ L + 1 - loK p FQ L = W := by rw [HE.out.1, HE.out.2]; omega
      unfold Left
      rw [eW, HE.out.1]
      exact ⟨vT, Bx, c, _, cs, .inl ⟨HF.out, (H2.out.drewN nq).done HLB.out.1 (HA.out.book.low 7 (by omega)).2.2 (HA.out.book.low 3 (by omega)).2.2 R4 N4 hcs S4⟩⟩
end Go.Proofs.Ybulkeamg
