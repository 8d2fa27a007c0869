/- S6357B: the law, the map. -/
import Derived.Test.YbulkeaqaBT3
namespace Go.Proofs.Ybulkeaqa
open Go.RowKit Go.Shelf
set_option linter.unusedSimpArgs false
attribute [local go_sem] Oper.semAt_some eql33

/-- The two tables and the model, ahead of the map. -/
structure Pre (z : ZG) (g : Geo) (wz w : World) (p : Pl) (V F : Nat → Value) (ov : Nat → Nat → Nat) (Fo : Nat → Value) (ovo : Nat → Nat → Nat) : Prop where
  fam : Fam w g.Bn g.newN F ov p.L
  old : Row w g.Bo (g.oldN * 25) 39 Fo
  och : ∀ i, i < g.oldN → p.mv i = false → Chain w g.Bo (i * 25) Fo (ovo i) (p.O i)
  omv : ∀ i, i < g.oldN → p.mv i = true → ∀ k, k < 25 → Fo (i * 25 + k) = mvc k
  mO : ¬ Mine g.Bn g.newN ov p.L g.Bo
  mV : ∀ i t, i < g.oldN → p.mv i = false → 1 ≤ t → t < nbk (p.O i).length → ¬ Mine g.Bn g.newN ov p.L (ovo i t)
  mz : MZ z g w p V
  pk : p.Ok g 262144
  st : Stay wz.heap.size (fun _ => False) wz w
  nx : p.nx < g.oldN
  mg : p.mig = 7
  cl : p.cl = 0
  bs : z.base = wz.heap.size
  lz : wz.heap.size ≤ z.Bz ∧ wz.heap.size ≤ z.Bv ∧ wz.heap.size ≤ z.Bol ∧ wz.heap.size ≤ z.Bnl
  lt : ∀ b, Mine g.Bn g.newN ov p.L b ∨ b = g.Bo → wz.heap.size ≤ b

set_option maxHeartbeats 4000000 in
set_option maxRecDepth 100000 in
theorem t2 {z : ZG} {g : Geo} {wz w : World} {p : Pl} {V F : Nat → Value} {ov : Nat → Nat → Nat} {Fo : Nat → Value} {ovo : Nat → Nat → Nat} {kA : Option Addr} {kn kc h : Nat} {x0 x1 x2 x3 x6 x7 x8 x9 x10 x11 x12 x17 x18 x19 x20 x21 x22 x25 x26 x28 x29 x30 x31 x32 x33 x34 x35 x36 x37 x38 x39 x40 x41 x42 x43 x44 x45 x46 x47 x48 x49 x50 x51 x52 x53 x54 x55 x56 x57 x58 x59 x60 x61 x62 x63 x64 x65 x66 x67 x68 x69 x70 x71 x72 x73 x74 x75 x76 x77 x78 x79 x80 x81 x82 x83 x84 x85 x86 x87 x88 x89 x90 x91 x92 x93 x94 x95 x96 x97 x98 x99 x100 x101 x102 x103 x104 x105 x106 x107 x108 x109 x110 x111 x112 x113 x114 x115 x116 x117 x118 x119 x120 x121 x122 x123 x124 x125 x126 x127 x128 x129 x130 x131 x132 x133 x134 x135 x136 x137 x138 x139 x140 x141 x142 x143 x144 x145 x146 x147 x148 x149 x150 x151 x152 x153 x154 x155 x156 x157 x158 x159 x160 x161 x162 x163 x164 x165 x166 x167 x168 x169 x170 x171 x172 x173 x174 x175 x176 x177 x178 x179 x180 x181 x182 x183 x184 x185 x186 x187 x188 x189 x190 x191 x192 x193 x194 x195 x196 x197 x198 x199 x200 x201 x202 x203 x204 x205 x206 x207 x208 x209 x210 x211 x212 x213 x214 x215 x216 x217 x218 x219 x220 x221 x222 x223 x224 x225 x226 x227 x228 x229 x230 x231 x232 x233 x234 x235 x236 x237 x238 x239 x240 x241 x242 x243 x244 x245 x246 x247 x248 x249 x250 x251 x252 x253 x254 x255 x256 x257 x258 x259 x260 x261 x262 x263 x264 x265 x266 x267 x268 x269 x270 x271 x272 x273 x274 x275 x276 x277 x278 x279 x280 x281 x282 x283 x284 x285 x286 x287 x288 x289 x290 x291 x292 x293 x294 x295 x296 x297 x298 x299 x300 x301 x302 x303 x304 x305 x306 x307 x308 x309 x310 x311 x312 x313 x314 x315 x316 x317 x318 x319 x320 x321 x322 x323 x324 x325 x326 x327 x328 x329 x330 x331 x332 x333 x334 x335 x336 x337 x338 x339 x340 x341 x342 x343 x344 x345 x346 x347 x348 x349 x350 x351 x352 x353 x354 x355 x356 x357 x358 x359 x360 x361 x362 x363 x364 x365 x366 x367 x368 x369 x370 x371 x372 x373 x374 x375 x376 x377 x378 x379 x380 x381 x382 x383 x384 x385 x386 x387 x388 x389 x390 x391 x392 x393 x394 x395 x396 x397 x398 x399 x400 x401 x402 x403 x404 x405 x406 x407 x408 x409 x410 x411 x412 x413 x414 x415 x416 x417 x418 x419 x420 x421 x422 x423 x424 x425 x426 x427 x428 x429 x430 x431 x432 x433 x434 x435 x436 x437 x438 x439 x440 x441 x442 x443 x444 x445 x446 x447 x448 x449 x450 x451 x452 x453 x454 x455 x456 x457 x458 x459 x460 x461 x462 x463 x464 x465 x466 x467 x468 x469 x470 x471 x472 x473 x474 x475 x476 x477 x478 x479 x480 x481 x482 x483 x484 x485 x486 x487 x488 x489 x490 x491 x492 x493 x494 x495 x496 x497 x498 x499 x500 x501 x502 x503 x504 x505 x506 x507 x508 x509 x510 x511 x512 x513 x514 x515 x516 x517 x518 x519 x520 x521 x522 x523 x524 x525 x526 x527 x528 x529 x530 : Value} (hg : g.Ok) (hBm : g.Bm = w.heap.size + 1) (hBc : g.Bc = w.heap.size) (hkn : kn = g.len) (hh : h < 18446744073709551616) (hb : Pre z g wz w p V F ov Fo ovo) :
    Code.wp Yba.prog (dropSeq 18 (bodyOf Yba.f3)) (bodyPost Yba.prog Yba.f3 fun e w' => e = .returned (.bool true) ∧ Stay wz.heap.size (fun _ => False) wz w')
      { tmps := #[x0, x1, x2, x3, .slice kA kn kc, .int .u64 h, x6, x7, x8, x9, x10, x11, x12, .int .i64 g.oldN, .int .i64 g.newN, .int .i64 p.nx, .pointer (some ⟨z.Bz, 0, none⟩), x17, x18, x19, x20, x21, x22, .int .i64 p.ovc, .slice (some ⟨g.Bn, 0, none⟩) g.newN g.newN, x25, x26, .slice (some ⟨g.Bo, 0, none⟩) g.oldN g.oldN, x28, x29, x30, x31, x32, x33, x34, x35, x36, x37, x38, x39, x40, x41, x42, x43, x44, x45, x46, x47, x48, x49, x50, x51, x52, x53, x54, x55, x56, x57, x58, x59, x60, x61, x62, x63, x64, x65, x66, x67, x68, x69, x70, x71, x72, x73, x74, x75, x76, x77, x78, x79, x80, x81, x82, x83, x84, x85, x86, x87, x88, x89, x90, x91, x92, x93, x94, x95, x96, x97, x98, x99, x100, x101, x102, x103, x104, x105, x106, x107, x108, x109, x110, x111, x112, x113, x114, x115, x116, x117, x118, x119, x120, x121, x122, x123, x124, x125, x126, x127, x128, x129, x130, x131, x132, x133, x134, x135, x136, x137, x138, x139, x140, x141, x142, x143, x144, x145, x146, x147, x148, x149, x150, x151, x152, x153, x154, x155, x156, x157, x158, x159, x160, x161, x162, x163, x164, x165, x166, x167, x168, x169, x170, x171, x172, x173, x174, x175, x176, x177, x178, x179, x180, x181, x182, x183, x184, x185, x186, x187, x188, x189, x190, x191, x192, x193, x194, x195, x196, x197, x198, x199, x200, x201, x202, x203, x204, x205, x206, x207, x208, x209, x210, x211, x212, x213, x214, x215, x216, x217, x218, x219, x220, x221, x222, x223, x224, x225, x226, x227, x228, x229, x230, x231, x232, x233, x234, x235, x236, x237, x238, x239, x240, x241, x242, x243, x244, x245, x246, x247, x248, x249, x250, x251, x252, x253, x254, x255, x256, x257, x258, x259, x260, x261, x262, x263, x264, x265, x266, x267, x268, x269, x270, x271, x272, x273, x274, x275, x276, x277, x278, x279, x280, x281, x282, x283, x284, x285, x286, x287, x288, x289, x290, x291, x292, x293, x294, x295, x296, x297, x298, x299, x300, x301, x302, x303, x304, x305, x306, x307, x308, x309, x310, x311, x312, x313, x314, x315, x316, x317, x318, x319, x320, x321, x322, x323, x324, x325, x326, x327, x328, x329, x330, x331, x332, x333, x334, x335, x336, x337, x338, x339, x340, x341, x342, x343, x344, x345, x346, x347, x348, x349, x350, x351, x352, x353, x354, x355, x356, x357, x358, x359, x360, x361, x362, x363, x364, x365, x366, x367, x368, x369, x370, x371, x372, x373, x374, x375, x376, x377, x378, x379, x380, x381, x382, x383, x384, x385, x386, x387, x388, x389, x390, x391, x392, x393, x394, x395, x396, x397, x398, x399, x400, x401, x402, x403, x404, x405, x406, x407, x408, x409, x410, x411, x412, x413, x414, x415, x416, x417, x418, x419, x420, x421, x422, x423, x424, x425, x426, x427, x428, x429, x430, x431, x432, x433, x434, x435, x436, x437, x438, x439, x440, x441, x442, x443, x444, x445, x446, x447, x448, x449, x450, x451, x452, x453, x454, x455, x456, x457, x458, x459, x460, x461, x462, x463, x464, x465, x466, x467, x468, x469, x470, x471, x472, x473, x474, x475, x476, x477, x478, x479, x480, x481, x482, x483, x484, x485, x486, x487, x488, x489, x490, x491, x492, x493, x494, x495, x496, x497, x498, x499, x500, x501, x502, x503, x504, x505, x506, x507, x508, x509, x510, x511, x512, x513, x514, x515, x516, x517, x518, x519, x520, x521, x522, x523, x524, x525, x526, x527, x528, x529, x530], defers := [] } w := by
  have HB : Hid (Pre z g wz w p V F ov Fo ovo) := hb
  have HG : Hid (g.Ok ∧ g.Bm = w.heap.size + 1 ∧ g.Bc = w.heap.size) := ⟨hg, hBm, hBc⟩
  have HK : Hid (kn = g.len ∧ h < 18446744073709551616) := ⟨hkn, hh⟩
  clear hb hg hkn hh hBm hBc
  conv => arg 2; whnf
  go_upto_region 53 with (fail)
  go_cut [32] from 252 to 265 (fun v wx => v = .pointer (some ⟨w.heap.size + 1, 0, none⟩) ∧ wx = (w.alloc (.cells #[.int .i64 0] 3)).alloc (.cells (mapA w.heap.size g.Bn g.Bo g.newN g.oldN p.nx kn p.ovc 7) 53))
  case first =>
    go_wp2_with fail
    go_meet
    case rel => exact ⟨rfl, rfl⟩
  case rest =>
    obtain ⟨rfl, hw⟩ := hcut
    rename World => w2
    obtain ⟨hg, hBm, hBc⟩ := HG.out
    have b := HB.out
    have hsz : (w.alloc (.cells #[.int .i64 0] 3)).heap.size = w.heap.size + 1 := by simp
    have S1 : Stay w.heap.size (fun _ => False) w w2 := by
      rw [hw]; exact ((Stay.refl _ _ w).alloc (Nat.le_refl _) _).alloc (by simp) _
    have c1 : Row w2 g.Bc 1 3 (fun _ => .int .i64 0) := by
      rw [hw, hBc]
      exact (Row.new w #[.int .i64 0] 3 (fun _ => .int .i64 0) (fun k hk => by
        have : k = 0 := by simpa using hk
        subst this; rfl)).alloc _
    have m1 : Row w2 g.Bm 18 53 (mapN g.Bc g.Bn g.Bo g.newN g.oldN p.nx g.len p.ovc p.mig) := by
      unfold mapN
      rw [if_neg (Nat.ne_of_lt b.nx), b.mg, ← HK.out.1, hw, hBm, hBc, ← hsz]
      exact Row.new (w.alloc (.cells #[.int .i64 0] 3)) (mapA w.heap.size g.Bn g.Bo g.newN g.oldN p.nx kn p.ovc 7) 53 (mapF w.heap.size g.Bn g.Bo g.newN g.oldN p.nx kn p.ovc 7) (fun k hk => by unfold mapF; simp [Array.getD, hk])
    have hms : MS g w2 p F ov Fo ovo := by
      refine ⟨m1, b.fam.on fun i hi => S1.block i (b.fam.lt hi) id, b.old.stay S1 b.old.lt id, fun i hi hm => ⟨(b.och i hi hm).head, fun t h1 h2 => ((b.och i hi hm).ovs t h1 h2).stay S1 ((b.och i hi hm).ovs t h1 h2).lt id, (b.och i hi hm).ne, (b.och i hi hm).inj⟩, b.omv, ?_, c1.frozen, fun h9 => ?_, fun h9 => ?_, b.mO, fun i t hi hm h1 h2 => ⟨b.mV i t hi hm h1 h2, ?_, ?_⟩⟩
      · rw [c1.cell (by omega), b.cl]; rfl
      · have := b.fam.lt h9; omega
      · have := b.fam.lt h9; omega
      · have := ((b.och i hi hm).ovs t h1 h2).lt; omega
      · have := ((b.och i hi hm).ovs t h1 h2).lt; omega
    have hst : Start z g wz w2 p V F ov Fo ovo := by
      refine ⟨hms, b.mz.stay S1, b.pk, b.st.next S1, b.nx, b.mg, b.bs, b.lz, fun i hi => ?_⟩
      have h8 := b.st.size
      rcases hi with h9 | h9 | h9 | h9
      · exact b.lt i (.inl h9)
      · omega
      · omega
      · exact b.lt i (.inr h9)
    rw [← hBm, ← hBc]
    go_step
    exact t3 hg HK.out.1 HK.out.2 ⟨1, _, c1⟩ hst
end Go.Proofs.Ybulkeaqa
