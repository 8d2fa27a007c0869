/- S6350A: the law, its last loops. -/
import Derived.Test.YbulkeamgFin
namespace Go.Proofs.Ybulkeamg
open Go.RowKit
set_option linter.unusedSimpArgs false

set_option maxHeartbeats 4000000 in
set_option maxRecDepth 100000 in
theorem tail4 {n p : Nat} {T : List Nat} {wz w : World} {Bb : Nat} {B Bw cw : Nat → Nat} {aT aW : Option Addr} {cT Bt lo W Bx c b len : Nat} {G : Nat → Nat} {Bs cs Bv cW : Nat} {x0 x1 x2 x3 x4 x5 x6 x7 x8 x11 x12 x13 x14 x16 x17 x18 x20 x21 x22 x23 x24 x25 x26 x27 x28 x29 x30 x31 x32 x33 x34 x35 x36 x37 x38 x39 x40 x41 x42 x43 x44 x45 x46 x47 x48 x49 x50 x51 x52 x53 x54 x55 x56 x57 x58 x59 x60 x61 x62 x63 x64 x65 x66 x67 x68 x69 x70 x71 x72 x73 x74 x75 x76 x77 x78 x79 x80 x81 x82 x83 x84 x85 x86 x87 x88 x89 x90 x91 x92 x93 x94 x95 x96 x97 x98 x99 x100 x101 x102 x103 x104 x105 x106 x107 x108 x109 x110 x111 x112 x113 x114 x115 x116 x117 x118 x119 x120 x121 x122 x123 x124 x125 x126 x127 x128 x129 x130 x131 x132 x133 x134 x135 x136 x137 x138 x139 x140 x141 x142 x143 x144 x145 x146 x147 x148 x149 x150 x151 x152 x153 x154 x155 x156 x157 x158 x159 x160 x161 x162 x163 x164 x165 x166 x167 x168 x169 x170 x171 x172 x173 x174 x175 x176 x177 x178 x179 x180 x181 x182 x183 x184 x185 x186 x187 x188 x189 x190 x191 x192 x193 x194 x195 x196 x197 x198 x199 x200 x201 x202 x203 x204 x205 x206 x207 x208 x209 x210 x211 x212 x213 x214 x215 x216 x217 x218 x219 x220 x221 x222 x223 x224 x225 x226 x227 x228 x229 x230 x231 x232 x233 x234 x235 x236 x237 x238 x239 x240 x241 x242 x243 x244 x245 x246 x247 x248 x249 x250 x251 x252 x253 x254 x255 x256 x257 x258 x259 x260 x261 x262 x263 x264 x265 x266 x267 x268 x269 x270 x271 x272 x273 x274 x275 x276 x277 x278 x279 x280 x281 x282 x283 x284 x285 x286 x287 x288 x289 x290 x291 x292 x293 x294 x295 x296 x297 x298 x299 x300 x301 x302 x303 x304 x305 x306 x307 x308 x309 x310 x311 x312 x313 x314 x315 x316 x317 x318 x319 x320 x321 x322 x323 x324 x325 x326 x327 x328 x329 x330 x331 x332 x333 x334 x335 x336 x337 x338 x339 x340 x341 x342 x343 x344 x345 x346 x347 x348 x349 x350 x351 x352 x353 x354 x355 x356 x357 x358 x359 x360 x361 x362 x363 x364 x365 x366 x367 x368 x369 x370 x371 x372 x373 x374 x375 x376 x377 x378 x379 x380 x381 x382 x383 x384 x385 x386 x387 x388 x389 x390 x391 x392 x393 x394 x395 x396 x397 x398 : Value}
    (hn : n ≤ 200) (hp : p < n) (hT : T.length ≤ 65536) (hF : Fin n p T wz Bb B Bw cw aT cT Bt lo W Bx c b len G Bs cs) (hS : Stay wz.heap.size (fun _ => False) wz w) (hV : Tk w aW Bv p T) :
    Code.wp Yba.prog (dropSeq 28 (bodyOf Yba.f3)) (bodyPost Yba.prog Yba.f3 fun e w' => e = .returned (.bool true) ∧ Stay wz.heap.size (fun _ => False) wz w')
      { tmps := #[x0, x1, x2, x3, x4, x5, x6, x7, x8, .int .i64 n, .int .i64 p, x11, x12, x13, x14, .pointer (some ⟨Bb, 0, none⟩), x16, x17, x18, .slice aW T.length cW, x20, x21, x22, x23, x24, x25, x26, x27, x28, x29, x30, x31, x32, x33, x34, x35, x36, x37, x38, x39, x40, x41, x42, x43, x44, x45, x46, x47, x48, x49, x50, x51, x52, x53, x54, x55, x56, x57, x58, x59, x60, x61, x62, x63, x64, x65, x66, x67, x68, x69, x70, x71, x72, x73, x74, x75, x76, x77, x78, x79, x80, x81, x82, x83, x84, x85, x86, x87, x88, x89, x90, x91, x92, x93, x94, x95, x96, x97, x98, x99, x100, x101, x102, x103, x104, x105, x106, x107, x108, x109, x110, x111, x112, x113, x114, x115, x116, x117, x118, x119, x120, x121, x122, x123, x124, x125, x126, x127, x128, x129, x130, x131, x132, x133, x134, x135, x136, x137, x138, x139, x140, x141, x142, x143, x144, x145, x146, x147, x148, x149, x150, x151, x152, x153, x154, x155, x156, x157, x158, x159, x160, x161, x162, x163, x164, x165, x166, x167, x168, x169, x170, x171, x172, x173, x174, x175, x176, x177, x178, x179, x180, x181, x182, x183, x184, x185, x186, x187, x188, x189, x190, x191, x192, x193, x194, x195, x196, x197, x198, x199, x200, x201, x202, x203, x204, x205, x206, x207, x208, x209, x210, x211, x212, x213, x214, x215, x216, x217, x218, x219, x220, x221, x222, x223, x224, x225, x226, x227, x228, x229, x230, x231, x232, x233, x234, x235, x236, x237, x238, x239, x240, x241, x242, x243, x244, x245, x246, x247, x248, x249, x250, x251, x252, x253, x254, x255, x256, x257, x258, x259, x260, x261, x262, x263, x264, x265, x266, x267, x268, x269, x270, x271, x272, x273, x274, x275, x276, x277, x278, x279, x280, x281, x282, x283, x284, x285, x286, x287, x288, x289, x290, x291, x292, x293, x294, x295, x296, x297, x298, x299, x300, x301, x302, x303, x304, x305, x306, x307, x308, x309, x310, x311, x312, x313, x314, x315, x316, x317, x318, x319, x320, x321, x322, x323, x324, x325, x326, x327, x328, x329, x330, x331, x332, x333, x334, x335, x336, x337, x338, x339, x340, x341, x342, x343, x344, x345, x346, x347, x348, x349, x350, x351, x352, x353, x354, x355, x356, x357, x358, x359, x360, x361, x362, x363, x364, x365, x366, x367, x368, x369, x370, x371, x372, x373, x374, x375, x376, x377, x378, x379, x380, x381, x382, x383, x384, x385, x386, x387, x388, x389, x390, x391, x392, x393, x394, x395, x396, x397, x398], defers := [] } w := by
  have HF : Hid _ := hF
  have HS : Hid _ := hS
  have HV : Hid _ := hV
  have f := hF.keep hS
  have f20 := f.f20
  have hw1 := hV.at_
  conv => arg 2; whnf
  clear hF hS hV f hw1
  go_wp2_with fail
  go_loopw [303] (fun v wr => ∃ (k : Nat), k ≤ T.length ∧ v = .int .i64 k ∧ Stay wz.heap.size (fun _ => False) wz wr ∧ Tk wr aW Bv p T) (fun v _ => T.length - (intOf v).toNat)
  case atStart => exact ⟨0, Nat.zero_le _, rfl, HS.out, HV.out⟩
  case round =>
    obtain ⟨k, hk, rfl, hS2, hV2⟩ := hrel
    clear f20 HS HV
    have f := HF.out.keep hS2
    have f20 := f.f20
    have HS : Hid _ := hS2
    have HV : Hid _ := hV2
    have HF2 : Hid _ := f
    by_cases hlt : k < T.length
    · have ea := f.tk.at_ (by omega)
      have eb := hV2.at_ (by omega)
      subst ea eb
      have c0 := f.tk.fst k hlt
      have c1 := f.tk.snd k hlt
      have d0 := hV2.fst k hlt
      have d1 := hV2.snd k hlt
      clear f hS2 hV2
      go_upto_region 71 with (fail)
      go_quiet (fail)
      go_wp2_with fail
      exact ⟨⟨k + 1, by omega, by go_num, HS.out.drewN nq, HV.out.keep ((Stay.refl _ _ wr).drewN nq)⟩, by simp [intOf]; omega⟩
    · have ek : k = T.length := by omega
      subst ek
      clear f hS2 hV2 f20
      go_wp2_with fail
      go_loopw [36] (fun v wr => ∃ (k : Nat), k ≤ n ∧ v = .int .i64 k ∧ Stay wz.heap.size (fun _ => False) wz wr) (fun v _ => n - (intOf v).toNat)
      case atStart => exact ⟨0, Nat.zero_le _, rfl, HS.out⟩
      case round =>
        obtain ⟨k, hk, rfl, hS2⟩ := hrel
        clear HS HV HF2
        have f := HF.out.keep hS2
        have HS : Hid _ := hS2
        have HF2 : Hid _ := f
        by_cases hlt : k < n
        · by_cases hkp : k = p
          · have hkb : ((k : Int) == (p : Int)) = true := by simp [hkp]
            have Hkp : Hid _ := hkp
            clear f hS2 hkp
            go_upto_region 80 with (fail)
            have hS3 := HS.out.alloc (by have := HS.out.size; omega) (.cells #[.int .i64 0, .int .i64 T.length] 49)
            obtain ⟨z0, z1⟩ := new_two wr (.int .i64 0) (.int .i64 T.length) 49
            generalize wr.alloc (.cells #[.int .i64 0, .int .i64 T.length] 49) = w3 at hS3 z0 z1 ⊢
            have f := HF.out.keep hS3
            have f22 := f.f22
            have c0 := f.t0 k hlt
            have c1 := f.t1 k hlt
            rw [if_pos Hkp.out] at c1
            have HS3 : Hid _ := hS3
            clear hS3 f
            go_quiet (fail)
            go_wp2_with fail
            exact ⟨⟨k + 1, by omega, by go_num, HS3.out.drewN nq⟩, by simp [intOf]; omega⟩
          · have hkb : ((k : Int) == (p : Int)) = false := by simp; omega
            have Hkp : Hid _ := hkp
            clear f hS2 hkp
            go_upto_region 80 with (fail)
            have hS3 := HS.out.alloc (by have := HS.out.size; omega) (.cells #[.int .i64 0, .int .i64 0] 49)
            obtain ⟨z0, z1⟩ := new_two wr (.int .i64 0) (.int .i64 0) 49
            generalize wr.alloc (.cells #[.int .i64 0, .int .i64 0] 49) = w3 at hS3 z0 z1 ⊢
            have f := HF.out.keep hS3
            have f22 := f.f22
            have c0 := f.t0 k hlt
            have c1' := f.t1 k hlt
            rw [if_neg Hkp.out] at c1'
            have c1 : w3.cell? ⟨B 7, k * 2 + 1, none⟩ = some (.int .i64 0) := c1'
            have HS3 : Hid _ := hS3
            clear hS3 f c1'
            go_quiet (fail)
            go_wp2_with fail
            exact ⟨⟨k + 1, by omega, by go_num, HS3.out.drewN nq⟩, by simp [intOf]; omega⟩
        · have f12 := f.f12
          clear f hS2
          go_wp2_with fail
          rename World => wo
          go_loopw [354] (fun v wr => ∃ (k : Nat), k ≤ p / 64 + 1 ∧ v = .int .i64 k ∧ wr = wo) (fun v _ => (p / 64 + 1) - (intOf v).toNat)
          case atStart => exact ⟨0, Nat.zero_le _, rfl, rfl⟩
          case round =>
            obtain ⟨j, hj, rfl, rfl⟩ := hrel
            by_cases hltj : j < p / 64 + 1
            · have c0 := HF2.out.set_ j hltj
              by_cases hjp : j = p / 64
              · rw [if_pos hjp] at c0
                have hjb : ((j : Int) == (p : Int) / 64) = true := by simp; omega
                have Hjp : Hid _ := hjp
                have hwp := wrap_pow p
                clear hjp
                go_wp2_with fail
                exact ⟨⟨j + 1, by omega, by go_num, by trivial⟩, by simp [intOf]; omega⟩
              · rw [if_neg hjp] at c0
                have c0' : wr.cell? ⟨Bs, j, none⟩ = some (.int .u64 0) := c0
                have hjb : ((j : Int) == (p : Int) / 64) = false := by simp; omega
                have Hjp : Hid _ := hjp
                clear hjp c0
                go_wp2_with fail
                exact ⟨⟨j + 1, by omega, by go_num, by trivial⟩, by simp [intOf]; omega⟩
            · have f := HF2.out
              have f0 := f.f0
              have f3 := f.f3
              have f8 := f.f8
              have f21 := f.f21
              clear f
              go_wp2_with fail
              go_ret
              exact ⟨rfl, HS.out⟩
end Go.Proofs.Ybulkeamg
