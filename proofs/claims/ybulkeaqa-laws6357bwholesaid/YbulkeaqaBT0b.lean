/- S6357B: the law, the lists. -/
import Derived.Test.YbulkeaqaBT1a
import Derived.Test.YbulkeaqaBReg
namespace Go.Proofs.Ybulkeaqa
open Go.RowKit Go.Shelf
set_option linter.unusedSimpArgs false
attribute [local go_sem] Oper.semAt_some eql33

/-- The model's cells ahead of its lists. -/
def zI (oldN newN nx : Nat) (vM vO vN : Value) (k : Nat) : Value := (#[.int .i64 oldN, .int .i64 newN, vM, vO, vN, .int .i64 nx, .bool false, .int .u64 7, .int .i64 0, .int .i64 0] : Array Value).getD k undef
theorem zI_old (oldN newN nx : Nat) (vM vO vN v : Value) (k : Nat) (hk : k < 10) : upd (zI oldN newN nx vM vO vN) 3 v k = zI oldN newN nx vM v vN k := by
  rcases (show k = 0 ∨ k = 1 ∨ k = 2 ∨ k = 3 ∨ k = 4 ∨ k = 5 ∨ k = 6 ∨ k = 7 ∨ k = 8 ∨ k = 9 by omega) with rfl | rfl | rfl | rfl | rfl | rfl | rfl | rfl | rfl | rfl <;> rfl
theorem zI_new (oldN newN nx : Nat) (vM vO vN v : Value) (k : Nat) (hk : k < 10) : upd (zI oldN newN nx vM vO vN) 4 v k = zI oldN newN nx vM vO v k := by
  rcases (show k = 0 ∨ k = 1 ∨ k = 2 ∨ k = 3 ∨ k = 4 ∨ k = 5 ∨ k = 6 ∨ k = 7 ∨ k = 8 ∨ k = 9 by omega) with rfl | rfl | rfl | rfl | rfl | rfl | rfl | rfl | rfl | rfl <;> rfl
theorem zI_mv (oldN newN nx : Nat) (vM vO vN v : Value) (k : Nat) (hk : k < 10) : upd (zI oldN newN nx vM vO vN) 2 v k = zI oldN newN nx v vO vN k := by
  rcases (show k = 0 ∨ k = 1 ∨ k = 2 ∨ k = 3 ∨ k = 4 ∨ k = 5 ∨ k = 6 ∨ k = 7 ∨ k = 8 ∨ k = 9 by omega) with rfl | rfl | rfl | rfl | rfl | rfl | rfl | rfl | rfl | rfl <;> rfl
theorem zI_zF (z : ZG) (oldN newN nx : Nat) (k : Nat) (hk : k < 10) : zI oldN newN nx (.slice (some ⟨z.Bv, 0, none⟩) oldN oldN) (.slice (some ⟨z.Bol, 0, none⟩) oldN oldN) (.slice (some ⟨z.Bnl, 0, none⟩) newN newN) k = zF z oldN newN nx false 7 0 0 k := by
  rcases (show k = 0 ∨ k = 1 ∨ k = 2 ∨ k = 3 ∨ k = 4 ∨ k = 5 ∨ k = 6 ∨ k = 7 ∨ k = 8 ∨ k = 9 by omega) with rfl | rfl | rfl | rfl | rfl | rfl | rfl | rfl | rfl | rfl <;> rfl
theorem make26 (w : World) (n : Nat) (hn : n ≤ 100) : (Instr.makeSlice 26 (.int .i64 (n : Int)) (.int .i64 (n : Int))).run Yba.prog w = .ok (.slice (some ⟨w.heap.size, 0, none⟩) n n) (w.alloc (.cells (madeCells #[.slice none 0 0] n) 32)) := by
  obtain ⟨i, hi, z0, z1, z2⟩ := info_parts (P := Yba.prog) (t := 32) (z := .slice none 0 0) (s := 1) (b := 24) (by kernel_rfl)
  have := run_make (P := Yba.prog) w 26 32 i (.slice none 0 0) Yba.underlying26 hi z0 .i64 .i64 n n (by omega) (by omega) (by rw [z2]; omega) (by omega)
  rw [z1] at this
  simp only [Int.toNat_natCast, Nat.mul_one] at this
  exact this
/-- The keys, as they came. -/
structure Keys (wz : World) (kA : Option Addr) (kn : Nat) (K : Nat → Nat) : Prop where
  at_ : 0 < kn → ∃ B o, kA = some ⟨B, o, none⟩ ∧ ∀ q, q < kn → wz.cell? ⟨B, o + q, none⟩ = some (.int .u64 (K q))
  k1 : ∀ q, q < kn → K q < 18446744073709551616
/-- The model, its flags set, ahead of the lists. -/
structure PreL (g : Geo) (wz w : World) (Bz Bv nx : Nat) (mv : Nat → Bool) (vO vN : Value) : Prop where
  zr : Row w Bz 10 28 (zI g.oldN g.newN nx (.slice (some ⟨Bv, 0, none⟩) g.oldN g.oldN) vO vN)
  mr : Row w Bv g.oldN 4 (fun j => .bool (mv j))
  st : Stay wz.heap.size (fun _ => False) wz w
  nxl : nx < g.oldN
  nm : mv nx = false
  lz : wz.heap.size ≤ Bz ∧ wz.heap.size ≤ Bv
  n3 : g.newN ≤ 32
  o3 : g.oldN ≤ 16
/-- Behind some keys. -/
structure LQ (z : ZG) (g : Geo) (wz wr : World) (mv : Nat → Bool) (nx q : Nat) (V : Nat → Value) (L O : Nat → List Ent) : Prop where
  mz : MZ z g wr ⟨L, O, mv, nx, 7, 0, 0⟩ V
  l1 : ∀ j, (L j).length ≤ q
  o1 : ∀ j, (O j).length ≤ q
  lo : ∀ j, ∀ e ∈ L j, e.Ok
  oo : ∀ j, ∀ e ∈ O j, e.Ok
  st : Stay wz.heap.size (fun _ => False) wz wr

set_option maxHeartbeats 4000000 in
set_option maxRecDepth 100000 in
theorem t0b {g : Geo} {wz w : World} {Bz Bv nx : Nat} {mv : Nat → Bool} {vO vN : Value} {K : Nat → Nat} {kA : Option Addr} {kn kc h : Nat} {x0 x1 x2 x3 x6 x7 x8 x9 x10 x11 x12 x17 x18 x19 x20 x21 x22 x23 x24 x25 x26 x27 x28 x29 x30 x31 x32 x33 x34 x35 x36 x37 x38 x39 x40 x41 x42 x43 x44 x45 x46 x47 x48 x49 x50 x51 x52 x53 x54 x55 x56 x57 x58 x59 x60 x61 x62 x63 x64 x65 x66 x67 x68 x69 x70 x71 x72 x73 x74 x75 x76 x77 x78 x79 x80 x81 x82 x83 x84 x85 x86 x87 x88 x89 x90 x91 x92 x93 x94 x95 x96 x97 x98 x99 x100 x101 x102 x103 x104 x105 x106 x107 x108 x109 x110 x111 x112 x113 x114 x115 x116 x117 x118 x119 x120 x121 x122 x123 x124 x125 x126 x127 x128 x129 x130 x131 x132 x133 x134 x135 x136 x137 x138 x139 x140 x141 x142 x143 x144 x145 x146 x147 x148 x149 x150 x151 x152 x153 x154 x155 x156 x157 x158 x159 x160 x161 x162 x163 x164 x165 x166 x167 x168 x169 x170 x171 x172 x173 x174 x175 x176 x177 x178 x179 x180 x181 x182 x183 x184 x185 x186 x187 x188 x189 x190 x191 x192 x193 x194 x195 x196 x197 x198 x199 x200 x201 x202 x203 x204 x205 x206 x207 x208 x209 x210 x211 x212 x213 x214 x215 x216 x217 x218 x219 x220 x221 x222 x223 x224 x225 x226 x227 x228 x229 x230 x231 x232 x233 x234 x235 x236 x237 x238 x239 x240 x241 x242 x243 x244 x245 x246 x247 x248 x249 x250 x251 x252 x253 x254 x255 x256 x257 x258 x259 x260 x261 x262 x263 x264 x265 x266 x267 x268 x269 x270 x271 x272 x273 x274 x275 x276 x277 x278 x279 x280 x281 x282 x283 x284 x285 x286 x287 x288 x289 x290 x291 x292 x293 x294 x295 x296 x297 x298 x299 x300 x301 x302 x303 x304 x305 x306 x307 x308 x309 x310 x311 x312 x313 x314 x315 x316 x317 x318 x319 x320 x321 x322 x323 x324 x325 x326 x327 x328 x329 x330 x331 x332 x333 x334 x335 x336 x337 x338 x339 x340 x341 x342 x343 x344 x345 x346 x347 x348 x349 x350 x351 x352 x353 x354 x355 x356 x357 x358 x359 x360 x361 x362 x363 x364 x365 x366 x367 x368 x369 x370 x371 x372 x373 x374 x375 x376 x377 x378 x379 x380 x381 x382 x383 x384 x385 x386 x387 x388 x389 x390 x391 x392 x393 x394 x395 x396 x397 x398 x399 x400 x401 x402 x403 x404 x405 x406 x407 x408 x409 x410 x411 x412 x413 x414 x415 x416 x417 x418 x419 x420 x421 x422 x423 x424 x425 x426 x427 x428 x429 x430 x431 x432 x433 x434 x435 x436 x437 x438 x439 x440 x441 x442 x443 x444 x445 x446 x447 x448 x449 x450 x451 x452 x453 x454 x455 x456 x457 x458 x459 x460 x461 x462 x463 x464 x465 x466 x467 x468 x469 x470 x471 x472 x473 x474 x475 x476 x477 x478 x479 x480 x481 x482 x483 x484 x485 x486 x487 x488 x489 x490 x491 x492 x493 x494 x495 x496 x497 x498 x499 x500 x501 x502 x503 x504 x505 x506 x507 x508 x509 x510 x511 x512 x513 x514 x515 x516 x517 x518 x519 x520 x521 x522 x523 x524 x525 x526 x527 x528 x529 x530 : Value} (hg : GeoN g) (hkn : kn = g.len) (hh : h < 18446744073709551616) (hk : Keys wz kA kn K) (hkl : kn ≤ 65536) (hb : PreL g wz w Bz Bv nx mv vO vN) :
    Code.wp Yba.prog (dropSeq 9 (bodyOf Yba.f3)) (bodyPost Yba.prog Yba.f3 fun e w' => e = .returned (.bool true) ∧ Stay wz.heap.size (fun _ => False) wz w')
      { tmps := #[x0, x1, x2, x3, .slice kA kn kc, .int .u64 h, x6, x7, x8, x9, x10, x11, x12, .int .i64 g.oldN, .int .i64 g.newN, .int .i64 nx, .pointer (some ⟨Bz, 0, none⟩), x17, x18, x19, x20, x21, x22, x23, x24, x25, x26, x27, x28, x29, x30, x31, x32, x33, x34, x35, x36, x37, x38, x39, x40, x41, x42, x43, x44, x45, x46, x47, x48, x49, x50, x51, x52, x53, x54, x55, x56, x57, x58, x59, x60, x61, x62, x63, x64, x65, x66, x67, x68, x69, x70, x71, x72, x73, x74, x75, x76, x77, x78, x79, x80, x81, x82, x83, x84, x85, x86, x87, x88, x89, x90, x91, x92, x93, x94, x95, x96, x97, x98, x99, x100, x101, x102, x103, x104, x105, x106, x107, x108, x109, x110, x111, x112, x113, x114, x115, x116, x117, x118, x119, x120, x121, x122, x123, x124, x125, x126, x127, x128, x129, x130, x131, x132, x133, x134, x135, x136, x137, x138, x139, x140, x141, x142, x143, x144, x145, x146, x147, x148, x149, x150, x151, x152, x153, x154, x155, x156, x157, x158, x159, x160, x161, x162, x163, x164, x165, x166, x167, x168, x169, x170, x171, x172, x173, x174, x175, x176, x177, x178, x179, x180, x181, x182, x183, x184, x185, x186, x187, x188, x189, x190, x191, x192, x193, x194, x195, x196, x197, x198, x199, x200, x201, x202, x203, x204, x205, x206, x207, x208, x209, x210, x211, x212, x213, x214, x215, x216, x217, x218, x219, x220, x221, x222, x223, x224, x225, x226, x227, x228, x229, x230, x231, x232, x233, x234, x235, x236, x237, x238, x239, x240, x241, x242, x243, x244, x245, x246, x247, x248, x249, x250, x251, x252, x253, x254, x255, x256, x257, x258, x259, x260, x261, x262, x263, x264, x265, x266, x267, x268, x269, x270, x271, x272, x273, x274, x275, x276, x277, x278, x279, x280, x281, x282, x283, x284, x285, x286, x287, x288, x289, x290, x291, x292, x293, x294, x295, x296, x297, x298, x299, x300, x301, x302, x303, x304, x305, x306, x307, x308, x309, x310, x311, x312, x313, x314, x315, x316, x317, x318, x319, x320, x321, x322, x323, x324, x325, x326, x327, x328, x329, x330, x331, x332, x333, x334, x335, x336, x337, x338, x339, x340, x341, x342, x343, x344, x345, x346, x347, x348, x349, x350, x351, x352, x353, x354, x355, x356, x357, x358, x359, x360, x361, x362, x363, x364, x365, x366, x367, x368, x369, x370, x371, x372, x373, x374, x375, x376, x377, x378, x379, x380, x381, x382, x383, x384, x385, x386, x387, x388, x389, x390, x391, x392, x393, x394, x395, x396, x397, x398, x399, x400, x401, x402, x403, x404, x405, x406, x407, x408, x409, x410, x411, x412, x413, x414, x415, x416, x417, x418, x419, x420, x421, x422, x423, x424, x425, x426, x427, x428, x429, x430, x431, x432, x433, x434, x435, x436, x437, x438, x439, x440, x441, x442, x443, x444, x445, x446, x447, x448, x449, x450, x451, x452, x453, x454, x455, x456, x457, x458, x459, x460, x461, x462, x463, x464, x465, x466, x467, x468, x469, x470, x471, x472, x473, x474, x475, x476, x477, x478, x479, x480, x481, x482, x483, x484, x485, x486, x487, x488, x489, x490, x491, x492, x493, x494, x495, x496, x497, x498, x499, x500, x501, x502, x503, x504, x505, x506, x507, x508, x509, x510, x511, x512, x513, x514, x515, x516, x517, x518, x519, x520, x521, x522, x523, x524, x525, x526, x527, x528, x529, x530], defers := [] } w := by
  have HK : Hid (GeoN g ∧ kn = g.len ∧ h < 18446744073709551616) := ⟨hg, hkn, hh⟩
  have HKY : Hid (Keys wz kA kn K) := hk
  have H31 : Hid (∃ i31, Yba.prog.info? 31 = some i31 ∧ i31.zero = some (.agg #[.int .u8 0, .int .u64 0, .int .i64 0]) ∧ i31.size = 3 ∧ i31.bytes = 24) := info_parts (P := Yba.prog) (t := 31) (z := .agg #[.int .u8 0, .int .u64 0, .int .i64 0]) (s := 3) (b := 24) (by kernel_rfl)
  have HB : Hid (PreL g wz w Bz Bv nx mv vO vN) := hb
  have hn3 := hb.n3
  have ho3 := hb.o3
  have hgo := hg 0 1 2 (by decide) (by decide) (by decide)
  have HGO : Hid (Geo.Ok { g with Bm := 0, Bc := 1, Bo := 2 }) := hgo
  have hmk := fun w => make26 w g.oldN (by omega)
  have hmk2 := fun w => make26 w g.newN (by omega)
  have z3 : ∀ o : Obj, (w.alloc o).cell? ⟨Bz, 3, none⟩ = some vO := fun o => (hb.zr.alloc o).cell (by omega)
  have z3f : ∀ o : Obj, (w.alloc o).frozen? ⟨Bz, 3, none⟩ = false := fun o => (hb.zr.alloc o).frozen
  conv => arg 2; whnf
  clear hb hg hkn hh hk hgo
  go_upto_region 20 with (fail)
  obtain ⟨w1, hw1⟩ : ∃ w1, (w.alloc (.cells (madeCells #[.slice none 0 0] g.oldN) 32)).setCell ⟨Bz, 3, none⟩ (.slice (some ⟨w.heap.size, 0, none⟩) g.oldN g.oldN) = w1 := ⟨_, rfl⟩
  rw [hw1]
  have b := HB.out
  have hz1 : w1.heap.size = w.heap.size + 1 := by rw [← hw1]; simp [World.setCell]
  have r1 : Row w1 Bz 10 28 (zI g.oldN g.newN nx (.slice (some ⟨Bv, 0, none⟩) g.oldN g.oldN) (.slice (some ⟨w.heap.size, 0, none⟩) g.oldN g.oldN) vN) := by
    rw [← hw1]; exact ((b.zr.alloc _).set _).congr (fun k hk => zI_old _ _ _ _ _ _ _ k hk)
  have m1 : Row w1 Bv g.oldN 4 (fun j => .bool (mv j)) := by
    rw [← hw1]; exact (b.mr.alloc _).other _ (b.mr.ne b.zr (by decide))
  have o1 : Row w1 w.heap.size g.oldN 32 (fun _ => .slice none 0 0) := by
    rw [← hw1]
    refine Row.other ?_ _ (by have := b.zr.lt; omega)
    exact (made_row w #[.slice none 0 0] g.oldN 32 (by decide)).congr (fun k _ => by simp [Nat.mod_one])
  have s1 : Stay wz.heap.size (fun _ => False) wz w1 := by
    rw [← hw1]; exact (b.st.alloc b.st.size _).set _ (.inl b.lz.1)
  have z4 : ∀ o : Obj, (w1.alloc o).cell? ⟨Bz, 4, none⟩ = some vN := fun o => (r1.alloc o).cell (by omega)
  have z4f : ∀ o : Obj, (w1.alloc o).frozen? ⟨Bz, 4, none⟩ = false := fun o => (r1.alloc o).frozen
  have H1 : Hid (w1.heap.size = w.heap.size + 1 ∧ Row w1 Bz 10 28 (zI g.oldN g.newN nx (.slice (some ⟨Bv, 0, none⟩) g.oldN g.oldN) (.slice (some ⟨w.heap.size, 0, none⟩) g.oldN g.oldN) vN) ∧ Row w1 Bv g.oldN 4 (fun j => .bool (mv j)) ∧ Row w1 w.heap.size g.oldN 32 (fun _ => .slice none 0 0) ∧ Stay wz.heap.size (fun _ => False) wz w1) := ⟨hz1, r1, m1, o1, s1⟩
  clear hw1 hz1 r1 m1 o1 s1 b z3 z3f hmk
  go_upto_region 21 with (fail)
  obtain ⟨w2, hw2⟩ : ∃ w2, (w1.alloc (.cells (madeCells #[.slice none 0 0] g.newN) 32)).setCell ⟨Bz, 4, none⟩ (.slice (some ⟨w1.heap.size, 0, none⟩) g.newN g.newN) = w2 := ⟨_, rfl⟩
  rw [hw2]
  have b := HB.out
  obtain ⟨hz1, r1, m1, o1, s1⟩ := H1.out
  have hbz := r1.lt
  have hz2 : w2.heap.size = w1.heap.size + 1 := by rw [← hw2]; simp [World.setCell]
  have r2 : Row w2 Bz 10 28 (zF ⟨Bz, Bv, w.heap.size, w1.heap.size, wz.heap.size⟩ g.oldN g.newN nx false 7 0 0) := by
    rw [← hw2]
    refine ((r1.alloc _).set _).congr (fun k hk => ?_)
    rw [zI_new _ _ _ _ _ _ _ k hk]
    exact zI_zF ⟨Bz, Bv, w.heap.size, w1.heap.size, wz.heap.size⟩ _ _ _ k hk
  have m2 : Row w2 Bv g.oldN 4 (fun j => .bool (mv j)) := by
    rw [← hw2]; exact (m1.alloc _).other _ (m1.ne r1 (by decide))
  have o2 : Row w2 w.heap.size g.oldN 32 (fun _ => .slice none 0 0) := by
    rw [← hw2]; exact (o1.alloc _).other _ (o1.ne r1 (by decide))
  have n2 : Row w2 w1.heap.size g.newN 32 (fun _ => .slice none 0 0) := by
    rw [← hw2]
    refine Row.other ?_ _ (by omega)
    exact (made_row w1 #[.slice none 0 0] g.newN 32 (by decide)).congr (fun k _ => by simp [Nat.mod_one])
  have s2 : Stay wz.heap.size (fun _ => False) wz w2 := by
    rw [← hw2]; exact (s1.alloc s1.size _).set _ (.inl b.lz.1)
  have hzz := b.st.size
  have L0 : LQ ⟨Bz, Bv, w.heap.size, w1.heap.size, wz.heap.size⟩ g wz w2 mv nx 0 (fun _ => .slice none 0 0) (fun _ => []) (fun _ => []) := by
    refine ⟨⟨?_, m2, n2, o2, ⟨fun j _ => ?_, fun j j' k _ _ _ hk => ?_⟩, by show w.heap.size ≠ w1.heap.size; omega, by show wz.heap.size ≤ w2.heap.size; omega⟩, fun _ => Nat.le_refl _, fun _ => Nat.le_refl _, fun _ e he => by simp at he, fun _ e he => by simp at he, s2⟩
    · show Row w2 Bz 10 28 (zF _ g.oldN g.newN nx (decide (nx = g.oldN)) 7 0 0)
      rw [decide_eq_false (Nat.ne_of_lt b.nxl)]; exact r2
    · have e9 : LL g.newN (fun _ => []) (fun _ => []) j = [] := by unfold LL; split <;> rfl
      show World.ownsRow _ _ _ _ _ (LL g.newN (fun _ => []) (fun _ => []) j).length (flat (LL g.newN (fun _ => []) (fun _ => []) j))
      rw [e9]; exact ⟨rfl, .inl ⟨rfl, rfl⟩⟩
    · cases hk
  have HL0 : Hid (LQ ⟨Bz, Bv, w.heap.size, w1.heap.size, wz.heap.size⟩ g wz w2 mv nx 0 (fun _ => .slice none 0 0) (fun _ => []) (fun _ => [])) := L0
  have HLZ : Hid (wz.heap.size ≤ Bz ∧ wz.heap.size ≤ Bv ∧ wz.heap.size ≤ w.heap.size ∧ wz.heap.size ≤ w1.heap.size) := ⟨b.lz.1, b.lz.2, hzz, by omega⟩
  obtain ⟨z, hzd⟩ : ∃ z : ZG, z = ⟨Bz, Bv, w.heap.size, w1.heap.size, wz.heap.size⟩ := ⟨_, rfl⟩
  have ez : Bz = z.Bz := by rw [hzd]
  have HZB : Hid (z.base = wz.heap.size ∧ wz.heap.size ≤ z.Bz ∧ wz.heap.size ≤ z.Bv ∧ wz.heap.size ≤ z.Bol ∧ wz.heap.size ≤ z.Bnl) := by
    rw [hzd]; exact ⟨rfl, HLZ.out⟩
  rw [← hzd] at HL0
  rw [ez]
  have HNX : Hid (nx < g.oldN ∧ mv nx = false) := ⟨b.nxl, b.nm⟩
  clear hw2 hz1 r1 m1 o1 s1 hbz hz2 r2 m2 o2 n2 s2 hzz L0 hzd ez HLZ b z4 z4f hmk2 H1 HB
  go_wp2_with fail
  go_loopw [120] (fun v wr => ∃ q : Nat, q ≤ kn ∧ v = .int .i64 q ∧ ∃ V L O, LQ z g wz wr mv nx q V L O) (fun v _ => kn - (intOf v).toNat)
  case atStart => exact ⟨0, Nat.zero_le _, rfl, _, _, _, HL0.out⟩
  case round =>
    obtain ⟨q, hq, rfl, V, L, O, hL⟩ := hrel
    have HL : Hid (LQ z g wz wr mv nx q V L O) := hL
    clear HL0
    by_cases hlt : q < kn
    · obtain ⟨Bk, ko, hka, hkc⟩ := HKY.out.at_ (by omega)
      subst hka
      have kc0 : wr.cell? ⟨Bk, ko + q, none⟩ = some (.int .u64 (K q)) := by
        have h8 := hkc q hlt
        have h9 := World.block_lt_of_cell? wz _ h8
        rw [hL.st.cell Bk _ h9 id]; exact h8
      have HKQ : Hid (K q < 18446744073709551616) := HKY.out.k1 q hlt
      generalize K q = kq at kc0 HKQ
      clear hkc hL
      go_upto_region 25 with (fail)
      obtain ⟨tt, htt, ht2, ht3⟩ := tag_or kq
      rw [htt]
      have E1 := ent_row wr ⟨tt, kq, q⟩
      have Z1 := HL.out.mz.stay ((Stay.refl _ _ wr).alloc (Nat.le_refl _) (.cells (entA ⟨tt, kq, q⟩) 31))
      have N1 : ∀ j k, j < g.newN + g.oldN → (V j).ownBlock = some k → k ≠ wr.heap.size := fun j k hj hk => Nat.ne_of_lt (HL.out.mz.ls.kind hj hk).1
      have S1 : Stay wz.heap.size (fun _ => False) wz (wr.alloc (.cells (entA ⟨tt, kq, q⟩) 31)) := HL.out.st.alloc HL.out.st.size _
      unfold entA at E1 Z1 S1
      generalize wr.alloc (.cells #[.int .u8 (tt : Nat), .int .u64 (kq : Nat), .int .i64 (q : Nat)] 31) = wx at E1 Z1 S1 ⊢
      generalize wr.heap.size = Be at E1 N1 ⊢
      have H3 : Hid (MZ z g wx ⟨L, O, mv, nx, 7, 0, 0⟩ V ∧ Row wx Be 3 31 (fun j => (#[.int .u8 (tt : Nat), .int .u64 (kq : Nat), .int .i64 (q : Nat)] : Array Value).getD j undef)) := ⟨Z1, E1⟩
      have HN1 : Hid (∀ j k, j < g.newN + g.oldN → (V j).ownBlock = some k → k ≠ Be) := N1
      have HST0 : Hid (Stay wz.heap.size (fun _ => False) wz wx) := S1
      have HEO : Hid (Ent.Ok ⟨tt, kq, q⟩) := ⟨ht2, ht3, HKQ.out, Nat.le_trans hq hkl⟩
      obtain ⟨i0, j0, hil, hjl, hmo, hmn, hwo, hwn, hy1, hy2, hy3, hy4⟩ := idx_facts HGO.out kq HKQ.out
      clear hy1 hy2 hy3 hy4
      have z2 : wx.cell? ⟨z.Bz, 2, none⟩ = some (.slice (some ⟨z.Bv, 0, none⟩) g.oldN g.oldN) := Z1.zr.cell (by decide)
      have zv : wx.cell? ⟨z.Bv, i0, none⟩ = some (.bool (mv i0)) := Z1.mr.cell hil
      have hjx : j0 < g.newN + g.oldN := Nat.lt_of_lt_of_le hjl (Nat.le_add_right _ _)
      have hix : g.newN + i0 < g.newN + g.oldN := Nat.add_lt_add_left hil _
      obtain ⟨sN, BN, cN, hvN, _, _⟩ := Z1.ls.lv (j := j0) hjx
      rw [LL_new hjl] at hvN
      obtain ⟨sO, BO, cO, hvO, _, _⟩ := Z1.ls.lv (j := g.newN + i0) hix
      rw [LL_old] at hvO
      have HVN : Hid (V j0 = .slice sN (L j0).length cN) := hvN
      have HVO : Hid (V (g.newN + i0) = .slice sO (O i0).length cO) := hvO
      have hlN : (L j0).length ≤ 65536 := Nat.le_trans (HL.out.l1 j0) (Nat.le_trans hq hkl)
      have hlO : (O i0).length ≤ 65536 := Nat.le_trans (HL.out.o1 i0) (Nat.le_trans hq hkl)
      clear E1 Z1 N1 S1 hvN hvO htt ht2 ht3 kc0
      have HJX : Hid (j0 < g.newN + g.oldN ∧ g.newN + i0 < g.newN + g.oldN) := ⟨hjx, hix⟩
      have HLL : Hid ((L j0).length ≤ 65536 ∧ (O i0).length ≤ 65536) := ⟨hlN, hlO⟩
      have HQK : Hid (q ≤ kn ∧ kn ≤ 65536 ∧ g.newN ≤ 32 ∧ g.oldN ≤ 16) := ⟨hq, hkl, hn3, ho3⟩
      clear hjx hix hlN hlO hq hkl
      have HWN : Hid (IntKind.u64.wrap ((g.newN : Int) - 1) = (g.newN : Int) - 1) := hwn
      clear hwn
      go_upto_region 26 with (fail)
      clear hmo hwo
      cases hmv : mv i0 with
      | true =>
        rw [hmv] at zv
        clear hmv
        have hwn := HWN.out
        go_upto_region 28 with (fail)
        clear hmn hwn z2 zv
        have hlen : (L j0).length ≤ 65536 := HLL.out.1
        have hjx := HJX.out.1
        refine reg28 (L := L) (O := O) (mv := mv) (nx := nx) (V := V) (Be := Be) (tt := tt) (kq := kq) (q := q) (j0 := j0) (lN := (L j0).length) (cN := cN) (sN := sN) (show _ = _ from rfl) rfl rfl rfl H3 HN1 HST0 HZB hjl hjx HVN rfl hlen ?_
        rintro g9 cap9 a' w' hmz hst ha'
        have hfin : a' = { tmps := #[x0, x1, x2, x3, Value.slice (some { block := Bk, off := ko }) kn kc, Value.int IntKind.u64 ↑h, x6, x7, x8, x9, x10, x11, x12, Value.int IntKind.i64 ↑g.oldN, Value.int IntKind.i64 ↑g.newN, Value.int IntKind.i64 ↑nx, Value.pointer (some { block := z.Bz, off := 0 }), x17, Value.int IntKind.i64 ↑q, Value.int IntKind.u64 ↑kq, Value.pointer (some { block := Be, off := 0 }), Value.int IntKind.i64 ↑i0, Value.int IntKind.i64 ↑j0, x23, x24, x25, x26, x27, x28, x29, x30, x31, x32, x33, x34, x35, x36, x37, x38, x39, x40, x41, x42, x43, x44, x45, x46, x47, x48, x49, x50, x51, x52, x53, x54, x55, x56, x57, x58, x59, x60, x61, x62, x63, x64, x65, x66, x67, x68, x69, x70, x71, x72, x73, x74, x75, x76, x77, x78, x79, x80, x81, x82, x83, x84, x85, x86, x87, x88, x89, x90, x91, x92, x93, x94, x95, x96, x97, x98, x99, x100, x101, x102, x103, x104, x105, x106, x107, Value.pointer (some { block := z.Bz, off := 0 }), Value.int IntKind.i64 ↑g.oldN, Value.slice (some { block := w.heap.size, off := 0 }) g.oldN g.oldN, Value.pointer (some { block := z.Bz, off := 0 }), Value.pointer (some { block := z.Bz, off := 3 }), Value.pointer (some { block := z.Bz, off := 0 }), Value.int IntKind.i64 ↑g.newN, Value.slice (some { block := w1.heap.size, off := 0 }) g.newN g.newN, Value.pointer (some { block := z.Bz, off := 0 }), Value.pointer (some { block := z.Bz, off := 4 }), Value.slice (some { block := Bk, off := ko }) kn kc, Value.int IntKind.i64 ↑kn, Value.int IntKind.i64 ↑q, Value.bool true, Value.int IntKind.i64 ↑q, Value.pointer (some { block := Bk, off := ko + q }), Value.int IntKind.u64 ↑kq, Value.int IntKind.u64 ↑kq, Value.int IntKind.u64 (↑kq / 256), Value.int IntKind.u8 (↑kq / 256 % 256), Value.int IntKind.u8 ↑tt, Value.int IntKind.u64 ↑kq, Value.int IntKind.i64 ↑q, Value.agg #[Value.int IntKind.u8 ↑tt, Value.int IntKind.u64 ↑kq, Value.int IntKind.i64 ↑q], Value.int IntKind.u64 ↑kq, Value.int IntKind.i64 ↑g.oldN, Value.int IntKind.i64 (↑g.oldN - 1), Value.int IntKind.u64 (↑g.oldN - 1), Value.int IntKind.u64 ↑i0, Value.int IntKind.i64 ↑i0, Value.pointer (some { block := z.Bz, off := 0 }), Value.pointer (some { block := z.Bz, off := 0 }), Value.pointer (some { block := z.Bz, off := 2 }), Value.slice (some { block := z.Bv, off := 0 }) g.oldN g.oldN, Value.int IntKind.i64 ↑i0, Value.pointer (some { block := z.Bv, off := i0 }), Value.bool true, Value.int IntKind.u64 ↑kq, Value.int IntKind.i64 ↑g.newN, Value.int IntKind.i64 (↑g.newN - 1), Value.int IntKind.u64 (↑g.newN - 1), Value.int IntKind.u64 ↑j0, Value.int IntKind.i64 ↑j0, .pointer (some ⟨z.Bz, 0, none⟩), .pointer (some ⟨z.Bz, 0, none⟩), .pointer (some ⟨z.Bz, 4, none⟩), .slice (some ⟨z.Bnl, 0, none⟩) g.newN g.newN, .int .i64 (j0 : Nat), .pointer (some ⟨z.Bz, 0, none⟩), .pointer (some ⟨z.Bz, 0, none⟩), .pointer (some ⟨z.Bz, 4, none⟩), .slice (some ⟨z.Bnl, 0, none⟩) g.newN g.newN, .int .i64 (j0 : Nat), .pointer (some ⟨z.Bnl, j0, none⟩), .slice sN (L j0).length cN, .agg #[.int .u8 (tt : Nat), .int .u64 (kq : Nat), .int .i64 (q : Nat)], .slice (some ⟨wx.heap.size, 0, none⟩) 1 1, .slice (some ⟨g9, 0, none⟩) ((L j0).length + 1) cap9, .pointer (some ⟨z.Bnl, j0, none⟩), u167, u168, u169, u170, u171, u172, u173, u174, u175, u176, u177, u178, u179, u180, u181, u182, u183, x184, x185, x186, x187, x188, x189, x190, x191, x192, x193, x194, x195, x196, x197, x198, x199, x200, x201, x202, x203, x204, x205, x206, x207, x208, x209, x210, x211, x212, x213, x214, x215, x216, x217, x218, x219, x220, x221, x222, x223, x224, x225, x226, x227, x228, x229, x230, x231, x232, x233, x234, x235, x236, x237, x238, x239, x240, x241, x242, x243, x244, x245, x246, x247, x248, x249, x250, x251, x252, x253, x254, x255, x256, x257, x258, x259, x260, x261, x262, x263, x264, x265, x266, x267, x268, x269, x270, x271, x272, x273, x274, x275, x276, x277, x278, x279, x280, x281, x282, x283, x284, x285, x286, x287, x288, x289, x290, x291, x292, x293, x294, x295, x296, x297, x298, x299, x300, x301, x302, x303, x304, x305, x306, x307, x308, x309, x310, x311, x312, x313, x314, x315, x316, x317, x318, x319, x320, x321, x322, x323, x324, x325, x326, x327, x328, x329, x330, x331, x332, x333, x334, x335, x336, x337, x338, x339, x340, x341, x342, x343, x344, x345, x346, x347, x348, x349, x350, x351, x352, x353, x354, x355, x356, x357, x358, x359, x360, x361, x362, x363, x364, x365, x366, x367, x368, x369, x370, x371, x372, x373, x374, x375, x376, x377, x378, x379, x380, x381, x382, x383, x384, x385, x386, x387, x388, x389, x390, x391, x392, x393, x394, x395, x396, x397, x398, x399, x400, x401, x402, x403, x404, x405, x406, x407, x408, x409, x410, x411, x412, x413, x414, x415, x416, x417, x418, x419, x420, x421, x422, x423, x424, x425, x426, x427, x428, x429, x430, x431, x432, x433, x434, x435, x436, x437, x438, x439, x440, x441, x442, x443, x444, x445, x446, x447, x448, x449, x450, x451, x452, x453, x454, x455, x456, x457, x458, x459, x460, x461, x462, x463, x464, x465, x466, x467, x468, x469, x470, x471, x472, x473, x474, x475, x476, x477, x478, x479, x480, x481, x482, x483, x484, x485, x486, x487, x488, x489, x490, x491, x492, x493, x494, x495, x496, x497, x498, x499, x500, x501, x502, x503, x504, x505, x506, x507, x508, x509, x510, x511, x512, x513, x514, x515, x516, x517, x518, x519, x520, x521, x522, x523, x524, x525, x526, x527, x528, x529, x530], defers := [] } := by rw [ha']; kernel_rfl
        rw [hfin]
        have HQ2 : Hid _ := hmz
        have HST : Hid _ := hst
        obtain ⟨hq, hkl, hn3', ho3'⟩ := HQK.out
        clear hfin ha' hmz hst hlen hjx hn3' ho3'
        go_wp2_with fail
        refine ⟨⟨q + 1, by omega, by go_num, _, _, _, ⟨HQ2.out, fun j => ?_, fun j => Nat.le_trans (HL.out.o1 j) (by omega), fun j e he => ?_, HL.out.oo, HST.out⟩⟩, by simp [intOf]; omega⟩
        · have h8 := HL.out.l1 j
          show (setL L j0 (L j0 ++ [_]) j).length ≤ q + 1
          unfold setL; split
          · have h9 := HL.out.l1 j0; simp; omega
          · omega
        · change e ∈ setL L j0 (L j0 ++ [_]) j at he
          unfold setL at he; split at he
          · rcases List.mem_append.1 he with he | he
            · exact HL.out.lo _ e he
            · have e9 : e = ⟨tt, kq, q⟩ := by simpa using he
              rw [e9]; exact HEO.out
          · exact HL.out.lo j e he
      | false =>
        rw [hmv] at zv
        clear hmv
        clear hmn
        go_upto_region 29 with (fail)
        clear z2 zv
        have hlen : (O i0).length ≤ 65536 := HLL.out.2
        have hix := HJX.out.2
        refine reg29 (L := L) (O := O) (mv := mv) (nx := nx) (V := V) (Be := Be) (tt := tt) (kq := kq) (q := q) (i0 := i0) (lN := (O i0).length) (cN := cO) (sN := sO) (show _ = _ from rfl) rfl rfl rfl H3 HN1 HST0 HZB hil hix HVO rfl hlen ?_
        rintro g9 cap9 a' w' hmz hst ha'
        have hfin : a' = { tmps := #[x0, x1, x2, x3, Value.slice (some { block := Bk, off := ko }) kn kc, Value.int IntKind.u64 ↑h, x6, x7, x8, x9, x10, x11, x12, Value.int IntKind.i64 ↑g.oldN, Value.int IntKind.i64 ↑g.newN, Value.int IntKind.i64 ↑nx, Value.pointer (some { block := z.Bz, off := 0 }), x17, Value.int IntKind.i64 ↑q, Value.int IntKind.u64 ↑kq, Value.pointer (some { block := Be, off := 0 }), Value.int IntKind.i64 ↑i0, u22, x23, x24, x25, x26, x27, x28, x29, x30, x31, x32, x33, x34, x35, x36, x37, x38, x39, x40, x41, x42, x43, x44, x45, x46, x47, x48, x49, x50, x51, x52, x53, x54, x55, x56, x57, x58, x59, x60, x61, x62, x63, x64, x65, x66, x67, x68, x69, x70, x71, x72, x73, x74, x75, x76, x77, x78, x79, x80, x81, x82, x83, x84, x85, x86, x87, x88, x89, x90, x91, x92, x93, x94, x95, x96, x97, x98, x99, x100, x101, x102, x103, x104, x105, x106, x107, Value.pointer (some { block := z.Bz, off := 0 }), Value.int IntKind.i64 ↑g.oldN, Value.slice (some { block := w.heap.size, off := 0 }) g.oldN g.oldN, Value.pointer (some { block := z.Bz, off := 0 }), Value.pointer (some { block := z.Bz, off := 3 }), Value.pointer (some { block := z.Bz, off := 0 }), Value.int IntKind.i64 ↑g.newN, Value.slice (some { block := w1.heap.size, off := 0 }) g.newN g.newN, Value.pointer (some { block := z.Bz, off := 0 }), Value.pointer (some { block := z.Bz, off := 4 }), Value.slice (some { block := Bk, off := ko }) kn kc, Value.int IntKind.i64 ↑kn, Value.int IntKind.i64 ↑q, Value.bool true, Value.int IntKind.i64 ↑q, Value.pointer (some { block := Bk, off := ko + q }), Value.int IntKind.u64 ↑kq, Value.int IntKind.u64 ↑kq, Value.int IntKind.u64 (↑kq / 256), Value.int IntKind.u8 (↑kq / 256 % 256), Value.int IntKind.u8 ↑tt, Value.int IntKind.u64 ↑kq, Value.int IntKind.i64 ↑q, Value.agg #[Value.int IntKind.u8 ↑tt, Value.int IntKind.u64 ↑kq, Value.int IntKind.i64 ↑q], Value.int IntKind.u64 ↑kq, Value.int IntKind.i64 ↑g.oldN, Value.int IntKind.i64 (↑g.oldN - 1), Value.int IntKind.u64 (↑g.oldN - 1), Value.int IntKind.u64 ↑i0, Value.int IntKind.i64 ↑i0, Value.pointer (some { block := z.Bz, off := 0 }), Value.pointer (some { block := z.Bz, off := 0 }), Value.pointer (some { block := z.Bz, off := 2 }), Value.slice (some { block := z.Bv, off := 0 }) g.oldN g.oldN, Value.int IntKind.i64 ↑i0, Value.pointer (some { block := z.Bv, off := i0 }), Value.bool false, u145, u146, u147, u148, u149, u150, u151, u152, u153, u154, u155, u156, u157, u158, u159, u160, u161, u162, u163, u164, u165, u166, .pointer (some ⟨z.Bz, 0, none⟩), .pointer (some ⟨z.Bz, 0, none⟩), .pointer (some ⟨z.Bz, 3, none⟩), .slice (some ⟨z.Bol, 0, none⟩) g.oldN g.oldN, .int .i64 (i0 : Nat), .pointer (some ⟨z.Bz, 0, none⟩), .pointer (some ⟨z.Bz, 0, none⟩), .pointer (some ⟨z.Bz, 3, none⟩), .slice (some ⟨z.Bol, 0, none⟩) g.oldN g.oldN, .int .i64 (i0 : Nat), .pointer (some ⟨z.Bol, i0, none⟩), .slice sO (O i0).length cO, .agg #[.int .u8 (tt : Nat), .int .u64 (kq : Nat), .int .i64 (q : Nat)], .slice (some ⟨wx.heap.size, 0, none⟩) 1 1, .slice (some ⟨g9, 0, none⟩) ((O i0).length + 1) cap9, .pointer (some ⟨z.Bol, i0, none⟩), u183, x184, x185, x186, x187, x188, x189, x190, x191, x192, x193, x194, x195, x196, x197, x198, x199, x200, x201, x202, x203, x204, x205, x206, x207, x208, x209, x210, x211, x212, x213, x214, x215, x216, x217, x218, x219, x220, x221, x222, x223, x224, x225, x226, x227, x228, x229, x230, x231, x232, x233, x234, x235, x236, x237, x238, x239, x240, x241, x242, x243, x244, x245, x246, x247, x248, x249, x250, x251, x252, x253, x254, x255, x256, x257, x258, x259, x260, x261, x262, x263, x264, x265, x266, x267, x268, x269, x270, x271, x272, x273, x274, x275, x276, x277, x278, x279, x280, x281, x282, x283, x284, x285, x286, x287, x288, x289, x290, x291, x292, x293, x294, x295, x296, x297, x298, x299, x300, x301, x302, x303, x304, x305, x306, x307, x308, x309, x310, x311, x312, x313, x314, x315, x316, x317, x318, x319, x320, x321, x322, x323, x324, x325, x326, x327, x328, x329, x330, x331, x332, x333, x334, x335, x336, x337, x338, x339, x340, x341, x342, x343, x344, x345, x346, x347, x348, x349, x350, x351, x352, x353, x354, x355, x356, x357, x358, x359, x360, x361, x362, x363, x364, x365, x366, x367, x368, x369, x370, x371, x372, x373, x374, x375, x376, x377, x378, x379, x380, x381, x382, x383, x384, x385, x386, x387, x388, x389, x390, x391, x392, x393, x394, x395, x396, x397, x398, x399, x400, x401, x402, x403, x404, x405, x406, x407, x408, x409, x410, x411, x412, x413, x414, x415, x416, x417, x418, x419, x420, x421, x422, x423, x424, x425, x426, x427, x428, x429, x430, x431, x432, x433, x434, x435, x436, x437, x438, x439, x440, x441, x442, x443, x444, x445, x446, x447, x448, x449, x450, x451, x452, x453, x454, x455, x456, x457, x458, x459, x460, x461, x462, x463, x464, x465, x466, x467, x468, x469, x470, x471, x472, x473, x474, x475, x476, x477, x478, x479, x480, x481, x482, x483, x484, x485, x486, x487, x488, x489, x490, x491, x492, x493, x494, x495, x496, x497, x498, x499, x500, x501, x502, x503, x504, x505, x506, x507, x508, x509, x510, x511, x512, x513, x514, x515, x516, x517, x518, x519, x520, x521, x522, x523, x524, x525, x526, x527, x528, x529, x530], defers := [] } := by rw [ha']; kernel_rfl
        rw [hfin]
        have HQ2 : Hid _ := hmz
        have HST : Hid _ := hst
        obtain ⟨hq, hkl, hn3', ho3'⟩ := HQK.out
        clear hfin ha' hmz hst hlen hix hn3' ho3'
        go_wp2_with fail
        refine ⟨⟨q + 1, by omega, by go_num, _, _, _, ⟨HQ2.out, fun j => Nat.le_trans (HL.out.l1 j) (by omega), fun j => ?_, HL.out.lo, fun j e he => ?_, HST.out⟩⟩, by simp [intOf]; omega⟩
        · have h8 := HL.out.o1 j
          show (setL O i0 (O i0 ++ [_]) j).length ≤ q + 1
          unfold setL; split
          · have h9 := HL.out.o1 i0; simp; omega
          · omega
        · change e ∈ setL O i0 (O i0 ++ [_]) j at he
          unfold setL at he; split at he
          · rcases List.mem_append.1 he with he | he
            · exact HL.out.oo _ e he
            · have e9 : e = ⟨tt, kq, q⟩ := by simpa using he
              rw [e9]; exact HEO.out
          · exact HL.out.oo j e he
    · have eq : q = kn := by omega
      clear hL
      go_upto_if 121 with (fail)
      go_step
      go_step
      go_step
      go_step
      go_step
      go_step
      have l := HL.out
      refine t1a (p := ⟨L, O, mv, nx, 7, 0, 0⟩) (V := V) HK.out.1 HK.out.2.1 HK.out.2.2 ⟨l.mz, ⟨fun j => Nat.le_trans (l.l1 j) (by omega), fun j => Nat.le_trans (l.o1 j) (by omega), Nat.zero_le _, Nat.zero_le _, by show 7 ≤ 500; omega, Nat.le_of_lt HNX.out.1, fun _ => HNX.out.2, l.lo, l.oo⟩, l.st, HNX.out.1, rfl, rfl, HZB.out.1, HZB.out.2, hn3, ho3⟩
end Go.Proofs.Ybulkeaqa
