/- S6350A: the law, its model of next. -/
import Derived.Test.YbulkeamgT2b
namespace Go.Proofs.Ybulkeamg
open Go.RowKit
set_option linter.unusedSimpArgs false

/-- The first k of a set. -/
def upTo (S : Nat → Bool) (k u : Nat) : Bool := decide (u < k) && S u
theorem upTo_no {S : Nat → Bool} {k : Nat} (h : S k = false) : upTo S (k + 1) = upTo S k := by
  funext u
  unfold upTo
  by_cases e : u = k
  · subst e; simp [h]
  · have : decide (u < k + 1) = decide (u < k) := by rw [decide_eq_decide]; omega
    rw [this]
theorem upTo_yes {S : Nat → Bool} {k : Nat} (h : S k = true) : upTo S (k + 1) = fun u => upTo S k u || u == k := by
  funext u
  unfold upTo
  by_cases e : u = k
  · subst e; simp [h]
  · have h1 : decide (u < k + 1) = decide (u < k) := by rw [decide_eq_decide]; omega
    have h2 : (u == k) = false := by simpa using e
    rw [h1, h2, Bool.or_false]
theorem upTo_all {S : Nat → Bool} {n : Nat} (h : ∀ v, S v = true → v < n) : upTo S n = S := by
  funext u
  unfold upTo
  cases e : S u with
  | false => simp
  | true => simp [h u e]
theorem upTo_none (S : Nat → Bool) : upTo S 0 = fun _ => false := by funext u; simp [upTo]
theorem gW_ext {S : Nat → Bool} {lo W : Nat} : ∀ d, d < W → gW S lo W d = wordOf S (lo + d) := fun d hd => by unfold gW; rw [if_pos hd]
theorem Stay.next {a b c : World} (h : Stay a.heap.size (fun _ => False) a b) (k : Stay b.heap.size (fun _ => False) b c) : Stay a.heap.size (fun _ => False) a c :=
  ⟨k.os.trans h.os, k.tape.trans h.tape, k.output.trans h.output, Nat.le_trans h.size k.size, fun i hi hs => (k.block i (Nat.lt_of_lt_of_le hi h.size) id).trans (h.block i hi hs)⟩
theorem Row.congr {w : World} {b N : Nat} {t : TypeId} {F G : Nat → Value} (h : Row w b N t F) (e : ∀ k, k < N → F k = G k) : Row w b N t G := by
  unfold Row at *
  rw [h, rowA_congr e]

set_option maxHeartbeats 4000000 in
set_option maxRecDepth 100000 in
theorem tail2 {n p : Nat} {T : List Nat} {wz w : World} {Bb : Nat} {B Bw cw : Nat → Nat} {aT aW : Option Addr} {cT Bt lo W Bx c b len : Nat} {G : Nat → Nat} {Bs cs Bv cW : Nat} {Bi h : Nat} {S : Nat → Bool} {x0 x1 x2 x3 x4 x5 x6 x7 x8 x11 x12 x13 x14 x20 x21 x22 x23 x24 x25 x26 x27 x28 x29 x30 x31 x32 x33 x34 x35 x36 x37 x38 x39 x40 x41 x42 x43 x44 x45 x46 x47 x48 x49 x50 x51 x52 x53 x54 x55 x56 x57 x58 x59 x60 x61 x62 x63 x64 x65 x66 x67 x68 x69 x70 x71 x72 x73 x74 x75 x76 x77 x78 x79 x80 x81 x82 x83 x84 x85 x86 x87 x88 x89 x90 x91 x92 x93 x94 x95 x96 x97 x98 x99 x100 x101 x102 x103 x104 x105 x106 x107 x108 x109 x110 x111 x112 x113 x114 x115 x116 x117 x118 x119 x120 x121 x122 x123 x124 x125 x126 x127 x128 x129 x130 x131 x132 x133 x134 x135 x136 x137 x138 x139 x140 x141 x142 x143 x144 x145 x146 x147 x148 x149 x150 x151 x152 x153 x154 x155 x156 x157 x158 x159 x160 x161 x162 x163 x164 x165 x166 x167 x168 x169 x170 x171 x172 x173 x174 x175 x176 x177 x178 x179 x180 x181 x182 x183 x184 x185 x186 x187 x188 x189 x190 x191 x192 x193 x194 x195 x196 x197 x198 x199 x200 x201 x202 x203 x204 x205 x206 x207 x208 x209 x210 x211 x212 x213 x214 x215 x216 x217 x218 x219 x220 x221 x222 x223 x224 x225 x226 x227 x228 x229 x230 x231 x232 x233 x234 x235 x236 x237 x238 x239 x240 x241 x242 x243 x244 x245 x246 x247 x248 x249 x250 x251 x252 x253 x254 x255 x256 x257 x258 x259 x260 x261 x262 x263 x264 x265 x266 x267 x268 x269 x270 x271 x272 x273 x274 x275 x276 x277 x278 x279 x280 x281 x282 x283 x284 x285 x286 x287 x288 x289 x290 x291 x292 x293 x294 x295 x296 x297 x298 x299 x300 x301 x302 x303 x304 x305 x306 x307 x308 x309 x310 x311 x312 x313 x314 x315 x316 x317 x318 x319 x320 x321 x322 x323 x324 x325 x326 x327 x328 x329 x330 x331 x332 x333 x334 x335 x336 x337 x338 x339 x340 x341 x342 x343 x344 x345 x346 x347 x348 x349 x350 x351 x352 x353 x354 x355 x356 x357 x358 x359 x360 x361 x362 x363 x364 x365 x366 x367 x368 x369 x370 x371 x372 x373 x374 x375 x376 x377 x378 x379 x380 x381 x382 x383 x384 x385 x386 x387 x388 x389 x390 x391 x392 x393 x394 x395 x396 x397 x398 : Value}
    (hn : n ≤ 200) (hp : p < n) (hT : T.length ≤ 65536) (hF : Fin n p T wz Bb B Bw cw aT cT Bt lo W Bx c b len G Bs cs) (hS : Stay wz.heap.size (fun _ => False) wz w) (hV : Tk w aW Bv p T) (hlen : len ≤ 65536) (hW4 : W ≤ 100) (hW0 : 0 < W) (hW : Want S n p lo W b len G) (hWh : h + 1 = lo + W) (hlo : lo ≤ 10) (hlp : lo ≤ p / 64 ∧ p / 64 < lo + W) (hM : ∀ v, S v = true → lo ≤ v / 64 ∧ v / 64 < lo + W) (hN : ∀ v, S v = true → v < n) (hbi : Bi < w.heap.size) (hbv : 0 < T.length → Bv < w.heap.size) (hR : Row w Bi (n * 1) 4 (fun v => .bool (S v))) :
    Code.wp Yba.prog (dropSeq 15 (bodyOf Yba.f3)) (bodyPost Yba.prog Yba.f3 fun e w' => e = .returned (.bool true) ∧ Stay wz.heap.size (fun _ => False) wz w')
      { tmps := #[x0, x1, x2, x3, x4, x5, x6, x7, x8, .int .i64 n, .int .i64 p, x11, x12, x13, x14, .pointer (some ⟨Bb, 0, none⟩), .slice (some ⟨Bi, 0, none⟩) n n, .int .i64 lo, .int .i64 h, .slice aW T.length cW, x20, x21, x22, x23, x24, x25, x26, x27, x28, x29, x30, x31, x32, x33, x34, x35, x36, x37, x38, x39, x40, x41, x42, x43, x44, x45, x46, x47, x48, x49, x50, x51, x52, x53, x54, x55, x56, x57, x58, x59, x60, x61, x62, x63, x64, x65, x66, x67, x68, x69, x70, x71, x72, x73, x74, x75, x76, x77, x78, x79, x80, x81, x82, x83, x84, x85, x86, x87, x88, x89, x90, x91, x92, x93, x94, x95, x96, x97, x98, x99, x100, x101, x102, x103, x104, x105, x106, x107, x108, x109, x110, x111, x112, x113, x114, x115, x116, x117, x118, x119, x120, x121, x122, x123, x124, x125, x126, x127, x128, x129, x130, x131, x132, x133, x134, x135, x136, x137, x138, x139, x140, x141, x142, x143, x144, x145, x146, x147, x148, x149, x150, x151, x152, x153, x154, x155, x156, x157, x158, x159, x160, x161, x162, x163, x164, x165, x166, x167, x168, x169, x170, x171, x172, x173, x174, x175, x176, x177, x178, x179, x180, x181, x182, x183, x184, x185, x186, x187, x188, x189, x190, x191, x192, x193, x194, x195, x196, x197, x198, x199, x200, x201, x202, x203, x204, x205, x206, x207, x208, x209, x210, x211, x212, x213, x214, x215, x216, x217, x218, x219, x220, x221, x222, x223, x224, x225, x226, x227, x228, x229, x230, x231, x232, x233, x234, x235, x236, x237, x238, x239, x240, x241, x242, x243, x244, x245, x246, x247, x248, x249, x250, x251, x252, x253, x254, x255, x256, x257, x258, x259, x260, x261, x262, x263, x264, x265, x266, x267, x268, x269, x270, x271, x272, x273, x274, x275, x276, x277, x278, x279, x280, x281, x282, x283, x284, x285, x286, x287, x288, x289, x290, x291, x292, x293, x294, x295, x296, x297, x298, x299, x300, x301, x302, x303, x304, x305, x306, x307, x308, x309, x310, x311, x312, x313, x314, x315, x316, x317, x318, x319, x320, x321, x322, x323, x324, x325, x326, x327, x328, x329, x330, x331, x332, x333, x334, x335, x336, x337, x338, x339, x340, x341, x342, x343, x344, x345, x346, x347, x348, x349, x350, x351, x352, x353, x354, x355, x356, x357, x358, x359, x360, x361, x362, x363, x364, x365, x366, x367, x368, x369, x370, x371, x372, x373, x374, x375, x376, x377, x378, x379, x380, x381, x382, x383, x384, x385, x386, x387, x388, x389, x390, x391, x392, x393, x394, x395, x396, x397, x398], defers := [] } w := by
  have HF : Hid _ := hF
  have HS : Hid _ := hS
  have HV : Hid _ := hV
  have HR : Hid (Row w Bi (n * 1) 4 (fun v => .bool (S v))) := hR
  have HW : Hid _ := hW
  have HM : Hid (∀ v, S v = true → lo ≤ v / 64 ∧ v / 64 < lo + W) := hM
  have HN : Hid (∀ v, S v = true → v < n) := hN
  have hWe : ((h : Int) - lo + 1) = W := by omega
  have hmk := fun w => make_of Yba.underlying34 inf35 (by omega) W (show W ≤ 1000 by omega) w
  have hb := hbi
  conv => arg 2; whnf
  clear hF hS hV hR hW hM hN hWh
  go_wp2_with fail
  go_loopw [23, 24] (fun u v wr => ∃ k : Nat, k ≤ n ∧ v = .int .i64 k ∧ u = .int .i64 (bsum S k : Nat) ∧ wr = w) (fun _ v _ => n - (intOf v).toNat)
  case atStart => exact ⟨0, Nat.zero_le _, rfl, rfl, rfl⟩
  case round =>
    obtain ⟨k, hk, rfl, rfl, rfl⟩ := hrel
    have hbl := bsum_le S k
    by_cases hlt : k < n
    · have c0 := HR.out.cell (k := k) (by omega)
      cases hsk : S k with
      | true =>
        have Hsk : Hid _ := hsk
        clear hmk
        go_wp2_with fail
        exact ⟨⟨k + 1, by omega, by go_num, by simp only [bsum, Hsk.out, Bool.toNat_true]; congr 1, by trivial⟩, by simp [intOf]; omega⟩
      | false =>
        have Hsk : Hid _ := hsk
        clear hmk
        go_wp2_with fail
        exact ⟨⟨k + 1, by omega, by go_num, by simp only [bsum, Hsk.out, Bool.toNat_false]; congr 1, by trivial⟩, by simp [intOf]; omega⟩
    · have ek : k = n := by omega
      subst ek
      go_wp2_with fail
      rename World => wo
      have hS1 := (Stay.refl wo.heap.size (fun _ => False) wo).alloc (Nat.le_refl _) (.cells (madeCells #[.int .u64 0] W) 35)
      have hR1 := Row.new wo (madeCells #[.int .u64 0] W) 35 (fun d => .int .u64 (gW (upTo S 0) lo W d)) (fun j hj => by
        rw [size_madeCells] at hj
        rw [upTo_none, gW_empty]
        simp [madeCells, hj, Nat.mod_one])
      rw [size_madeCells] at hR1
      generalize wo.alloc (.cells (madeCells #[.int .u64 0] W) 35) = w1 at hS1 hR1 ⊢
      have H1 : Hid _ := (⟨hS1, hR1⟩ : _ ∧ _)
      clear hS1 hR1
      go_loopw [27] (fun v wr => ∃ j : Nat, j ≤ k ∧ v = .int .i64 j ∧ Stay wo.heap.size (fun _ => False) wo wr ∧ Row wr wo.heap.size W 35 (fun d => .int .u64 (gW (upTo S j) lo W d))) (fun v _ => k - (intOf v).toNat)
      case atStart => exact ⟨0, Nat.zero_le _, rfl, H1.out⟩
      case round =>
        obtain ⟨j, hj, rfl, hS2, hR2⟩ := hrel
        clear H1
        have H2 : Hid (Stay wo.heap.size (fun _ => False) wo wr ∧ Row wr wo.heap.size W 35 (fun d => .int .u64 (gW (upTo S j) lo W d))) := ⟨hS2, hR2⟩
        by_cases hltj : j < k
        · have c0 := (HR.out.stay hS2 hb id).cell (k := j) (by omega)
          cases hsk : S j with
          | true =>
            have Hsk : Hid _ := hsk
            obtain ⟨m1, m2⟩ := HM.out j hsk
            obtain ⟨d, hd⟩ : ∃ d, j / 64 = lo + d := ⟨j / 64 - lo, by omega⟩
            have hwx : IntKind.i64.wrap ((j : Int) / 64 - lo) = d := by rw [IntKind.wrap_i64]; omega
            have hwx2 : ((j : Int) / 64 - lo) = d := by omega
            have hdW : d < W := by omega
            have g0 := hR2.cell (k := d) (by omega)
            have gf := hR2.frozen (k := d)
            have hwp := wrap_pow j
            have Hd : Hid (j / 64 = lo + d) := hd
            clear hmk hS2 hR2 m1 m2 hd
            go_wp2_with fail
            refine ⟨⟨j + 1, by omega, by go_num, H2.out.1.set _ (.inl (Nat.le_refl _)), ?_⟩, by simp [intOf]; omega⟩
            have e2 : ((2 : Int) ^ (j % 64)) = ((2 ^ (j % 64) : Nat) : Int) := by simp
            have hpw : (2 : Nat) ^ (j % 64) < 18446744073709551616 := Nat.lt_of_lt_of_le (Nat.pow_lt_pow_right (by decide) (show j % 64 < 64 by omega)) (by decide)
            rw [e2, bits_or_u64_nat _ _ (gW_lt _ _ _ _) hpw]
            refine (H2.out.2.set (k := d) _).congr (fun i hi => ?_)
            rw [upTo_yes Hsk.out, ← gW_insert _ lo W d j hdW Hd.out]
            simp only [upd, updN]
            split <;> rfl
          | false =>
            have Hsk : Hid _ := hsk
            clear hmk hS2 hR2
            go_wp2_with fail
            refine ⟨⟨j + 1, by omega, by go_num, H2.out.1, ?_⟩, by simp [intOf]; omega⟩
            rw [upTo_no Hsk.out]
            exact H2.out.2
        · have ej : j = k := by omega
          subst ej
          clear hS2 hR2
          go_upto_region 46 with (fail)
          rename World => w4
          have hS5 := H2.out.1.alloc (by have := H2.out.1.size; omega) (.cells (madeCells #[.int .u64 0] W) 35)
          have hR5 := Row.new w4 (madeCells #[.int .u64 0] W) 35 (fun _ => .int .u64 0) (fun i hi => by
            rw [size_madeCells] at hi
            simp [madeCells, hi, Nat.mod_one])
          rw [size_madeCells] at hR5
          have hR6 := H2.out.2.alloc (.cells (madeCells #[.int .u64 0] W) 35)
          have hlt4 := H2.out.2.lt
          generalize w4.alloc (.cells (madeCells #[.int .u64 0] W) 35) = w5 at hS5 hR5 hR6 ⊢
          obtain ⟨d, hd⟩ : ∃ d, p / 64 = lo + d := ⟨p / 64 - lo, by omega⟩
          have hwx : IntKind.i64.wrap ((p : Int) / 64 - lo) = d := by rw [IntKind.wrap_i64]; omega
          have hwx2 : ((p : Int) / 64 - lo) = d := by omega
          have hdW : d < W := by omega
          have g0 := hR5.cell (k := d) (by omega)
          have gf := hR5.frozen (k := d)
          have hwp := wrap_pow p
          have e2 : ((2 : Int) ^ (p % 64)) = ((2 ^ (p % 64) : Nat) : Int) := by simp
          have hS6 : Stay wo.heap.size (fun _ => False) wo (w5.setCell ⟨w4.heap.size, d, none⟩ (.int .u64 ((2 : Int) ^ (p % 64)))) := hS5.set _ (.inl (by omega))
          have hR7 : Row (w5.setCell ⟨w4.heap.size, d, none⟩ (.int .u64 ((2 : Int) ^ (p % 64)))) wo.heap.size (W * 1) 35 (fun i => .int .u64 (wordOf S (lo + i))) := by
            rw [Nat.mul_one]
            refine (hR6.other _ (by omega)).congr (fun i hi => ?_)
            rw [gW_ext i hi, upTo_all HN.out]
          have hR8 : Row (w5.setCell ⟨w4.heap.size, d, none⟩ (.int .u64 ((2 : Int) ^ (p % 64)))) w4.heap.size (W * 1) 35 (fun i => .int .u64 (wordOf (fun v => v == p) (lo + i))) := by
            rw [Nat.mul_one]
            refine (hR5.set _).congr (fun i hi => ?_)
            rw [wordOf_one]
            by_cases ei : i = d
            · subst ei; rw [upd_same, if_pos (by omega), e2]
            · rw [upd_ne _ _ ei, if_neg (by omega)]; rfl
          have H6 : Hid _ := (⟨hS6, hR7, hR8⟩ : _ ∧ _ ∧ _)
          clear hS5 hR5 hR6 hS6 hR7 hR8 e2 hd hmk
          go_upto_region 48 with (fail)
          generalize w5.setCell ⟨w4.heap.size, d, none⟩ (.int .u64 ((2 : Int) ^ (p % 64))) = w6 at H6 ⊢
          go_cut [30] (fun v wc => v = .slice none 0 0 ∧ wc = w6)
          case first =>
            go_wp2_with fail
            go_meet
            case rel => exact ⟨rfl, rfl⟩
          case rest =>
            obtain ⟨rfl, rfl⟩ := hcut
            go_step
            exact tail2b hn hp hT HF.out (HS.out.next H6.out.1) (HV.out.keep H6.out.1) hlen hW4 hW0 HW.out (by have := HS.out.size; omega) (fun h0 => by have := hbv h0; omega) H6.out.2.1 H6.out.2.2
end Go.Proofs.Ybulkeamg
