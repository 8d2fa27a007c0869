/- S6350A: the law, next against its model. -/
import Derived.Test.YbulkeamgT4
namespace Go.Proofs.Ybulkeamg
open Go.RowKit
set_option linter.unusedSimpArgs false

set_option maxHeartbeats 4000000 in
set_option maxRecDepth 100000 in
theorem tail3 {n p : Nat} {T : List Nat} {wz w : World} {Bb : Nat} {B Bw cw : Nat → Nat} {aT aW : Option Addr} {cT Bt lo W Bx c b len : Nat} {G : Nat → Nat} {Bs cs Bv cW Bq cq : Nat} {x0 x1 x2 x3 x4 x5 x6 x7 x8 x11 x12 x13 x14 x16 x18 x20 x21 x22 x23 x24 x26 x27 x28 x31 x32 x33 x34 x35 x36 x37 x38 x39 x40 x41 x42 x43 x44 x45 x46 x47 x48 x49 x50 x51 x52 x53 x54 x55 x56 x57 x58 x59 x60 x61 x62 x63 x64 x65 x66 x67 x68 x69 x70 x71 x72 x73 x74 x75 x76 x77 x78 x79 x80 x81 x82 x83 x84 x85 x86 x87 x88 x89 x90 x91 x92 x93 x94 x95 x96 x97 x98 x99 x100 x101 x102 x103 x104 x105 x106 x107 x108 x109 x110 x111 x112 x113 x114 x115 x116 x117 x118 x119 x120 x121 x122 x123 x124 x125 x126 x127 x128 x129 x130 x131 x132 x133 x134 x135 x136 x137 x138 x139 x140 x141 x142 x143 x144 x145 x146 x147 x148 x149 x150 x151 x152 x153 x154 x155 x156 x157 x158 x159 x160 x161 x162 x163 x164 x165 x166 x167 x168 x169 x170 x171 x172 x173 x174 x175 x176 x177 x178 x179 x180 x181 x182 x183 x184 x185 x186 x187 x188 x189 x190 x191 x192 x193 x194 x195 x196 x197 x198 x199 x200 x201 x202 x203 x204 x205 x206 x207 x208 x209 x210 x211 x212 x213 x214 x215 x216 x217 x218 x219 x220 x221 x222 x223 x224 x225 x226 x227 x228 x229 x230 x231 x232 x233 x234 x235 x236 x237 x238 x239 x240 x241 x242 x243 x244 x245 x246 x247 x248 x249 x250 x251 x252 x253 x254 x255 x256 x257 x258 x259 x260 x261 x262 x263 x264 x265 x266 x267 x268 x269 x270 x271 x272 x273 x274 x275 x276 x277 x278 x279 x280 x281 x282 x283 x284 x285 x286 x287 x288 x289 x290 x291 x292 x293 x294 x295 x296 x297 x298 x299 x300 x301 x302 x303 x304 x305 x306 x307 x308 x309 x310 x311 x312 x313 x314 x315 x316 x317 x318 x319 x320 x321 x322 x323 x324 x325 x326 x327 x328 x329 x330 x331 x332 x333 x334 x335 x336 x337 x338 x339 x340 x341 x342 x343 x344 x345 x346 x347 x348 x349 x350 x351 x352 x353 x354 x355 x356 x357 x358 x359 x360 x361 x362 x363 x364 x365 x366 x367 x368 x369 x370 x371 x372 x373 x374 x375 x376 x377 x378 x379 x380 x381 x382 x383 x384 x385 x386 x387 x388 x389 x390 x391 x392 x393 x394 x395 x396 x397 x398 : Value}
    (hn : n ≤ 200) (hp : p < n) (hT : T.length ≤ 65536) (hlen : len ≤ 65536) (hF : Fin n p T wz Bb B Bw cw aT cT Bt lo W Bx c b len G Bs cs) (hS : Stay wz.heap.size (fun _ => False) wz w) (hV : Tk w aW Bv p T) (hq : ∀ d, d < len → w.cell? ⟨Bq, d, none⟩ = some (.int .u64 (G d))) :
    Code.wp Yba.prog (dropSeq 25 (bodyOf Yba.f3)) (bodyPost Yba.prog Yba.f3 fun e w' => e = .returned (.bool true) ∧ Stay wz.heap.size (fun _ => False) wz w')
      { tmps := #[x0, x1, x2, x3, x4, x5, x6, x7, x8, .int .i64 n, .int .i64 p, x11, x12, x13, x14, .pointer (some ⟨Bb, 0, none⟩), x16, .int .i64 lo, x18, .slice aW T.length cW, x20, x21, x22, x23, x24, .int .i64 W, x26, x27, x28, .int .i64 b, .slice (some ⟨Bq, 0, none⟩) len cq, x31, x32, x33, x34, x35, x36, x37, x38, x39, x40, x41, x42, x43, x44, x45, x46, x47, x48, x49, x50, x51, x52, x53, x54, x55, x56, x57, x58, x59, x60, x61, x62, x63, x64, x65, x66, x67, x68, x69, x70, x71, x72, x73, x74, x75, x76, x77, x78, x79, x80, x81, x82, x83, x84, x85, x86, x87, x88, x89, x90, x91, x92, x93, x94, x95, x96, x97, x98, x99, x100, x101, x102, x103, x104, x105, x106, x107, x108, x109, x110, x111, x112, x113, x114, x115, x116, x117, x118, x119, x120, x121, x122, x123, x124, x125, x126, x127, x128, x129, x130, x131, x132, x133, x134, x135, x136, x137, x138, x139, x140, x141, x142, x143, x144, x145, x146, x147, x148, x149, x150, x151, x152, x153, x154, x155, x156, x157, x158, x159, x160, x161, x162, x163, x164, x165, x166, x167, x168, x169, x170, x171, x172, x173, x174, x175, x176, x177, x178, x179, x180, x181, x182, x183, x184, x185, x186, x187, x188, x189, x190, x191, x192, x193, x194, x195, x196, x197, x198, x199, x200, x201, x202, x203, x204, x205, x206, x207, x208, x209, x210, x211, x212, x213, x214, x215, x216, x217, x218, x219, x220, x221, x222, x223, x224, x225, x226, x227, x228, x229, x230, x231, x232, x233, x234, x235, x236, x237, x238, x239, x240, x241, x242, x243, x244, x245, x246, x247, x248, x249, x250, x251, x252, x253, x254, x255, x256, x257, x258, x259, x260, x261, x262, x263, x264, x265, x266, x267, x268, x269, x270, x271, x272, x273, x274, x275, x276, x277, x278, x279, x280, x281, x282, x283, x284, x285, x286, x287, x288, x289, x290, x291, x292, x293, x294, x295, x296, x297, x298, x299, x300, x301, x302, x303, x304, x305, x306, x307, x308, x309, x310, x311, x312, x313, x314, x315, x316, x317, x318, x319, x320, x321, x322, x323, x324, x325, x326, x327, x328, x329, x330, x331, x332, x333, x334, x335, x336, x337, x338, x339, x340, x341, x342, x343, x344, x345, x346, x347, x348, x349, x350, x351, x352, x353, x354, x355, x356, x357, x358, x359, x360, x361, x362, x363, x364, x365, x366, x367, x368, x369, x370, x371, x372, x373, x374, x375, x376, x377, x378, x379, x380, x381, x382, x383, x384, x385, x386, x387, x388, x389, x390, x391, x392, x393, x394, x395, x396, x397, x398], defers := [] } w := by
  have HF : Hid _ := hF
  have f := hF.keep hS
  have f7 := f.f7
  have k0 := f.n0
  have k1 := f.n1
  have k2 := f.n2
  have k3 := f.n3
  have HS : Hid _ := hS
  have HV : Hid _ := hV
  have HQ : Hid _ := hq
  conv => arg 2; whnf
  clear hF hS hV f hq
  go_upto_region 54 with (fail)
  have hS3 := HS.out.alloc (by have := HS.out.size; omega) (.cells #[.int .i64 b, .int .i64 lo, .int .i64 W, .slice (some ⟨Bx, 0, none⟩) len c] 38)
  have hs3 := (Stay.refl w.heap.size (fun _ => False) w).alloc (Nat.le_refl _) (.cells #[.int .i64 b, .int .i64 lo, .int .i64 W, .slice (some ⟨Bx, 0, none⟩) len c] 38)
  obtain ⟨z0, z1, z2, z3⟩ := new_four w (.int .i64 b) (.int .i64 lo) (.int .i64 W) (.slice (some ⟨Bx, 0, none⟩) len c) 38
  generalize w.alloc (.cells #[.int .i64 b, .int .i64 lo, .int .i64 W, .slice (some ⟨Bx, 0, none⟩) len c] 38) = w3 at hS3 hs3 z0 z1 z2 z3 ⊢
  have hV3 := HV.out.keep hs3
  have HC : Hid _ := equal64 Bx Bq len c cq G w3 hlen (HF.out.keep hS3).words (fun k hk => hs3.some (HQ.out k hk))
  have HS3 : Hid _ := (⟨hS3, hV3⟩ : _ ∧ _)
  clear k0 k1 k2 k3 f7 hS3 hs3 hV3 HS HV HQ
  go_wp2_with (go_at_call 8; refine Calls.mono HC.out ?_; rintro e w4 ⟨rfl, q4, e4⟩; have E4 : Hid _ := e4; clear e4)
  have hS4 : Stay wz.heap.size (fun _ => False) wz w4 ∧ Tk w4 aW Bv p T := by rw [E4.out]; exact ⟨HS3.out.1.drewN q4, HS3.out.2.keep ((Stay.refl _ _ w3).drewN q4)⟩
  have H4 : Hid _ := hS4
  clear HC HS3 E4 hS4 z0 z1 z2 z3
  go_loopw [32] (fun v wr => ∃ (k : Nat), k ≤ n ∧ v = .int .i64 k ∧ Stay wz.heap.size (fun _ => False) wz wr ∧ Tk wr aW Bv p T) (fun v _ => n - (intOf v).toNat)
  case atStart => exact ⟨0, Nat.zero_le _, rfl, H4.out⟩
  case round =>
    obtain ⟨k, hk, rfl, hS, hV⟩ := hrel
    clear H4
    have f := HF.out.keep hS
    have HS : Hid _ := hS
    have HV : Hid _ := hV
    by_cases hlt : k < n
    · have hwp := wrap_pow k
      by_cases hkp : k = p
      · have hkb : ((k : Int) != (p : Int)) = false := by simp [hkp]
        have f6 := f.f6
        have c0 := f.r0 k hlt
        have c1 := f.r1 k hlt
        have c2 := f.r2 k hlt
        have c3 := f.r3 k hlt
        clear f hS hV hkp
        go_upto_region 64 with (fail)
        have hS5 := HS.out.alloc (by have := HS.out.size; omega) (.cells #[.int .i64 0, .int .i64 ((k : Int) / 64), .int .i64 1, .slice (some ⟨Bw k, 0, none⟩) 1 (cw k)] 38)
        have hs5 := (Stay.refl wr.heap.size (fun _ => False) wr).alloc (Nat.le_refl _) (.cells #[.int .i64 0, .int .i64 ((k : Int) / 64), .int .i64 1, .slice (some ⟨Bw k, 0, none⟩) 1 (cw k)] 38)
        obtain ⟨z0, z1, z2, z3⟩ := new_four wr (.int .i64 0) (.int .i64 ((k : Int) / 64)) (.int .i64 1) (.slice (some ⟨Bw k, 0, none⟩) 1 (cw k)) 38
        generalize wr.alloc (.cells #[.int .i64 0, .int .i64 ((k : Int) / 64), .int .i64 1, .slice (some ⟨Bw k, 0, none⟩) 1 (cw k)] 38) = w5 at hS5 hs5 z0 z1 z2 z3 ⊢
        have cw5 := (HF.out.keep hS5).rw_ k hlt
        have HS5 : Hid _ := (⟨hS5, HV.out.keep hs5⟩ : _ ∧ _)
        clear c0 c1 c2 c3 f6 hS5 hs5 HS HV
        go_wp2_with fail
        exact ⟨⟨k + 1, by omega, by go_num, HS5.out.1, HS5.out.2⟩, by simp [intOf]; omega⟩
      · have hkb : ((k : Int) != (p : Int)) = true := by simp; omega
        have f7 := f.f7
        have c0 := f.m0 k hlt hkp
        have c1 := f.m1 k hlt hkp
        have c2 := f.m2 k hlt hkp
        have c3 := f.m3 k hlt hkp
        clear f hS hV hkp
        go_upto_region 61 with (fail)
        rename World => wo
        have hS4 := HS.out.alloc (by have := HS.out.size; omega) (.cells #[.int .i64 0, .int .i64 0, .int .i64 0, .slice none 0 0] 38)
        have hs4 := (Stay.refl wo.heap.size (fun _ => False) wo).alloc (Nat.le_refl _) (.cells #[.int .i64 0, .int .i64 0, .int .i64 0, .slice none 0 0] 38)
        obtain ⟨z0, z1, z2, z3⟩ := new_four wo (.int .i64 0) (.int .i64 0) (.int .i64 0) (.slice none 0 0) 38
        generalize wo.alloc (.cells #[.int .i64 0, .int .i64 0, .int .i64 0, .slice none 0 0] 38) = wr at hS4 hs4 z0 z1 z2 z3 ⊢
        have hV4 := HV.out.keep hs4
        clear HS HV hs4 c0 c1 c2 c3 f7
        have f := HF.out.keep hS4
        have HS : Hid _ := hS4
        have HV : Hid _ := hV4
        have f6 := f.f6
        have c0 := f.r0 k hlt
        have c1 := f.r1 k hlt
        have c2 := f.r2 k hlt
        have c3 := f.r3 k hlt
        clear f hS4 hV4
        go_upto_region 63 with (fail)
        clear z0 z1 z2 z3
        go_upto_region 64 with (fail)
        have hS5 := HS.out.alloc (by have := HS.out.size; omega) (.cells #[.int .i64 0, .int .i64 ((k : Int) / 64), .int .i64 1, .slice (some ⟨Bw k, 0, none⟩) 1 (cw k)] 38)
        have hs5 := (Stay.refl wr.heap.size (fun _ => False) wr).alloc (Nat.le_refl _) (.cells #[.int .i64 0, .int .i64 ((k : Int) / 64), .int .i64 1, .slice (some ⟨Bw k, 0, none⟩) 1 (cw k)] 38)
        obtain ⟨z0, z1, z2, z3⟩ := new_four wr (.int .i64 0) (.int .i64 ((k : Int) / 64)) (.int .i64 1) (.slice (some ⟨Bw k, 0, none⟩) 1 (cw k)) 38
        generalize wr.alloc (.cells #[.int .i64 0, .int .i64 ((k : Int) / 64), .int .i64 1, .slice (some ⟨Bw k, 0, none⟩) 1 (cw k)] 38) = w5 at hS5 hs5 z0 z1 z2 z3 ⊢
        have cw5 := (HF.out.keep hS5).rw_ k hlt
        have HS5 : Hid _ := (⟨hS5, HV.out.keep hs5⟩ : _ ∧ _)
        clear c0 c1 c2 c3 f6 hS5 hs5 HS HV
        go_wp2_with fail
        exact ⟨⟨k + 1, by omega, by go_num, HS5.out.1, HS5.out.2⟩, by simp [intOf]; omega⟩
    · clear f hS hV
      go_upto_if 222 with (fail)
      go_step
      go_step
      go_step
      go_step
      go_step
      go_step
      exact tail4 hn hp hT HF.out HS.out HV.out
end Go.Proofs.Ybulkeamg
