/- S6357B: the law, the moves. -/
import Derived.Test.YbulkeaqaBT4
namespace Go.Proofs.Ybulkeaqa
open Go.RowKit Go.Shelf
set_option linter.unusedSimpArgs false
attribute [local go_sem] Oper.semAt_some eql33

/-- Map and model ahead of the moves. -/
structure Start (z : ZG) (g : Geo) (wz w : World) (p : Pl) (V F : Nat → Value) (ov : Nat → Nat → Nat) (Fo : Nat → Value) (ovo : Nat → Nat → Nat) : Prop where
  ms : MS g w p F ov Fo ovo
  mz : MZ z g w p V
  pk : p.Ok g 262144
  st : Stay wz.heap.size (fun _ => False) wz w
  nx : p.nx < g.oldN
  mg : p.mig = 7
  bs : z.base = wz.heap.size
  lz : wz.heap.size ≤ z.Bz ∧ wz.heap.size ≤ z.Bv ∧ wz.heap.size ≤ z.Bol ∧ wz.heap.size ≤ z.Bnl
  lt : ∀ b, Touch g ov p.L b → wz.heap.size ≤ b

/-- The model's blocks are none of the map's, nor are its lists'. -/
theorem row_not_mine {w : World} {Bn M : Nat} {F : Nat → Value} {ov : Nat → Nat → Nat} {L : Nat → List Ent} (h : Fam w Bn M F ov L) {b N : Nat} {t : TypeId} {G : Nat → Value} (hr : Row w b N t G) (ht : t ≠ 39) : ¬ Mine Bn M ov L b := fun hm => by
  rcases hm with rfl | ⟨j, t', hj, hl, rfl⟩
  · exact hr.ne h.row ht rfl
  · exact hr.ne ((h.ch j hj).ovs t' hl.1 hl.2) ht rfl

/-- The map's side stays when the model moves. -/
theorem MS.k31 {z : ZG} {g : Geo} {w w' : World} {p p' : Pl} {V F : Nat → Value} {ov : Nat → Nat → Nat} {Fo : Nat → Value} {ovo : Nat → Nat → Nat} (h : MS g w p F ov Fo ovo) (hz : MZ z g w p' V) (hc : ∃ N G, Row w g.Bc N 3 G) (k : K31 z.base w.heap.size (fun b => b = z.Bz ∨ b = z.Bv ∨ b = z.Bol ∨ b = z.Bnl) w w') : MS g w' p F ov Fo ovo := by
  obtain ⟨N, G, hc⟩ := hc
  have key : ∀ {b N : Nat} {t : TypeId} {F : Nat → Value}, Row w b N t F → t ≠ 31 → t ≠ 28 → t ≠ 4 → t ≠ 32 → w'.heap[b]? = w.heap[b]? := fun {b N t F} hr h1 h2 h3 h4 => by
    have := hr.k31 k hr.lt (by
      rintro (e | e | e | e)
      · exact hr.ne hz.zr h2 e
      · exact hr.ne hz.mr h3 e
      · exact hr.ne hz.orr h4 e
      · exact hr.ne hz.nr h4 e) h1
    have h' : w.heap[b]? = _ := hr
    have h'' : w'.heap[b]? = _ := this
    rw [h', h'']
  have hbc := key hc (by decide) (by decide) (by decide) (by decide)
  refine ⟨(key h.map (by decide) (by decide) (by decide) (by decide)).trans h.map, h.fam.on fun b hb => ?_, (key h.old (by decide) (by decide) (by decide) (by decide)).trans h.old, fun i hi hm => ⟨(h.och i hi hm).head, fun t h1 h2 => (key ((h.och i hi hm).ovs t h1 h2) (by decide) (by decide) (by decide) (by decide)).trans ((h.och i hi hm).ovs t h1 h2), (h.och i hi hm).ne, (h.och i hi hm).inj⟩, h.omv, (World.cell?_of_block (a := ⟨g.Bc, 0, none⟩) hbc).trans h.cc, (World.frozen?_of_block (a := ⟨g.Bc, 0, none⟩) hbc).trans h.cf, h.mM, h.mC, h.mO, h.mV⟩
  rcases hb with rfl | ⟨j, t, hj, hl, rfl⟩
  · exact key h.fam.row (by decide) (by decide) (by decide) (by decide)
  · exact key ((h.fam.ch j hj).ovs t hl.1 hl.2) (by decide) (by decide) (by decide) (by decide)

/-- The model's side stays when the map migrates. -/
theorem MZ.touch {z : ZG} {g : Geo} {w w' : World} {p p' : Pl} {V F : Nat → Value} {ov : Nat → Nat → Nat} {Fo : Nat → Value} {ovo : Nat → Nat → Nat} (hz : MZ z g w p' V) (h : MS g w p F ov Fo ovo) (hc : ∃ N G, Row w g.Bc N 3 G) (k : Stay w.heap.size (Touch g ov p.L) w w') : MZ z g w' p' V := by
  obtain ⟨N, G, hc⟩ := hc
  have key : ∀ {b N : Nat} {t : TypeId} {F : Nat → Value}, Row w b N t F → t ≠ 39 → t ≠ 53 → t ≠ 3 → w'.heap[b]? = w.heap[b]? := fun {b N t F} hr h1 h2 h3 => k.block b hr.lt (by
      rintro (e | e | e | e)
      · exact row_not_mine h.fam hr h1 e
      · exact hr.ne h.map h2 e
      · exact hr.ne hc h3 e
      · exact hr.ne h.old h1 e)
  refine ⟨(key hz.zr (by decide) (by decide) (by decide)).trans hz.zr, (key hz.mr (by decide) (by decide) (by decide)).trans hz.mr, (key hz.nr (by decide) (by decide) (by decide)).trans hz.nr, (key hz.orr (by decide) (by decide) (by decide)).trans hz.orr, hz.ls.on fun j b hj hb => ?_, hz.ne, Nat.le_trans hz.bs k.size⟩
  obtain ⟨_, a, ha⟩ := hz.ls.kind hj hb
  have hr : Row w b a.size 31 (fun k => a.getD k undef) := by
    show w.heap[b]? = _
    rw [ha, ← rowA_of a (fun k => a.getD k undef) (fun k hk => by simp [Array.getD, hk])]
  exact key hr (by decide) (by decide) (by decide)

set_option maxHeartbeats 4000000 in
set_option maxRecDepth 100000 in
theorem t3 {z : ZG} {g : Geo} {wz w : World} {p : Pl} {V F : Nat → Value} {ov : Nat → Nat → Nat} {Fo : Nat → Value} {ovo : Nat → Nat → Nat} {kA : Option Addr} {kn kc h : Nat} {x0 x1 x2 x3 x6 x7 x8 x9 x10 x11 x12 x15 x17 x18 x19 x20 x21 x22 x23 x24 x25 x26 x27 x28 x30 x31 x33 x34 x35 x36 x37 x38 x39 x40 x41 x42 x43 x44 x45 x46 x47 x48 x49 x50 x51 x52 x53 x54 x55 x56 x57 x58 x59 x60 x61 x62 x63 x64 x65 x66 x67 x68 x69 x70 x71 x72 x73 x74 x75 x76 x77 x78 x79 x80 x81 x82 x83 x84 x85 x86 x87 x88 x89 x90 x91 x92 x93 x94 x95 x96 x97 x98 x99 x100 x101 x102 x103 x104 x105 x106 x107 x108 x109 x110 x111 x112 x113 x114 x115 x116 x117 x118 x119 x120 x121 x122 x123 x124 x125 x126 x127 x128 x129 x130 x131 x132 x133 x134 x135 x136 x137 x138 x139 x140 x141 x142 x143 x144 x145 x146 x147 x148 x149 x150 x151 x152 x153 x154 x155 x156 x157 x158 x159 x160 x161 x162 x163 x164 x165 x166 x167 x168 x169 x170 x171 x172 x173 x174 x175 x176 x177 x178 x179 x180 x181 x182 x183 x184 x185 x186 x187 x188 x189 x190 x191 x192 x193 x194 x195 x196 x197 x198 x199 x200 x201 x202 x203 x204 x205 x206 x207 x208 x209 x210 x211 x212 x213 x214 x215 x216 x217 x218 x219 x220 x221 x222 x223 x224 x225 x226 x227 x228 x229 x230 x231 x232 x233 x234 x235 x236 x237 x238 x239 x240 x241 x242 x243 x244 x245 x246 x247 x248 x249 x250 x251 x252 x253 x254 x255 x256 x257 x258 x259 x260 x261 x262 x263 x264 x265 x266 x267 x268 x269 x270 x271 x272 x273 x274 x275 x276 x277 x278 x279 x280 x281 x282 x283 x284 x285 x286 x287 x288 x289 x290 x291 x292 x293 x294 x295 x296 x297 x298 x299 x300 x301 x302 x303 x304 x305 x306 x307 x308 x309 x310 x311 x312 x313 x314 x315 x316 x317 x318 x319 x320 x321 x322 x323 x324 x325 x326 x327 x328 x329 x330 x331 x332 x333 x334 x335 x336 x337 x338 x339 x340 x341 x342 x343 x344 x345 x346 x347 x348 x349 x350 x351 x352 x353 x354 x355 x356 x357 x358 x359 x360 x361 x362 x363 x364 x365 x366 x367 x368 x369 x370 x371 x372 x373 x374 x375 x376 x377 x378 x379 x380 x381 x382 x383 x384 x385 x386 x387 x388 x389 x390 x391 x392 x393 x394 x395 x396 x397 x398 x399 x400 x401 x402 x403 x404 x405 x406 x407 x408 x409 x410 x411 x412 x413 x414 x415 x416 x417 x418 x419 x420 x421 x422 x423 x424 x425 x426 x427 x428 x429 x430 x431 x432 x433 x434 x435 x436 x437 x438 x439 x440 x441 x442 x443 x444 x445 x446 x447 x448 x449 x450 x451 x452 x453 x454 x455 x456 x457 x458 x459 x460 x461 x462 x463 x464 x465 x466 x467 x468 x469 x470 x471 x472 x473 x474 x475 x476 x477 x478 x479 x480 x481 x482 x483 x484 x485 x486 x487 x488 x489 x490 x491 x492 x493 x494 x495 x496 x497 x498 x499 x500 x501 x502 x503 x504 x505 x506 x507 x508 x509 x510 x511 x512 x513 x514 x515 x516 x517 x518 x519 x520 x521 x522 x523 x524 x525 x526 x527 x528 x529 x530 : Value} (hg : g.Ok) (hkn : kn = g.len) (hh : h < 18446744073709551616) (hc : ∃ N G, Row w g.Bc N 3 G) (hb : Start z g wz w p V F ov Fo ovo) :
    Code.wp Yba.prog (dropSeq 22 (bodyOf Yba.f3)) (bodyPost Yba.prog Yba.f3 fun e w' => e = .returned (.bool true) ∧ Stay wz.heap.size (fun _ => False) wz w')
      { tmps := #[x0, x1, x2, x3, .slice kA kn kc, .int .u64 h, x6, x7, x8, x9, x10, x11, x12, .int .i64 g.oldN, .int .i64 g.newN, x15, .pointer (some ⟨z.Bz, 0, none⟩), x17, x18, x19, x20, x21, x22, x23, x24, x25, x26, x27, x28, .pointer (some ⟨g.Bc, 0, none⟩), x30, x31, .pointer (some ⟨g.Bm, 0, none⟩), x33, x34, x35, x36, x37, x38, x39, x40, x41, x42, x43, x44, x45, x46, x47, x48, x49, x50, x51, x52, x53, x54, x55, x56, x57, x58, x59, x60, x61, x62, x63, x64, x65, x66, x67, x68, x69, x70, x71, x72, x73, x74, x75, x76, x77, x78, x79, x80, x81, x82, x83, x84, x85, x86, x87, x88, x89, x90, x91, x92, x93, x94, x95, x96, x97, x98, x99, x100, x101, x102, x103, x104, x105, x106, x107, x108, x109, x110, x111, x112, x113, x114, x115, x116, x117, x118, x119, x120, x121, x122, x123, x124, x125, x126, x127, x128, x129, x130, x131, x132, x133, x134, x135, x136, x137, x138, x139, x140, x141, x142, x143, x144, x145, x146, x147, x148, x149, x150, x151, x152, x153, x154, x155, x156, x157, x158, x159, x160, x161, x162, x163, x164, x165, x166, x167, x168, x169, x170, x171, x172, x173, x174, x175, x176, x177, x178, x179, x180, x181, x182, x183, x184, x185, x186, x187, x188, x189, x190, x191, x192, x193, x194, x195, x196, x197, x198, x199, x200, x201, x202, x203, x204, x205, x206, x207, x208, x209, x210, x211, x212, x213, x214, x215, x216, x217, x218, x219, x220, x221, x222, x223, x224, x225, x226, x227, x228, x229, x230, x231, x232, x233, x234, x235, x236, x237, x238, x239, x240, x241, x242, x243, x244, x245, x246, x247, x248, x249, x250, x251, x252, x253, x254, x255, x256, x257, x258, x259, x260, x261, x262, x263, x264, x265, x266, x267, x268, x269, x270, x271, x272, x273, x274, x275, x276, x277, x278, x279, x280, x281, x282, x283, x284, x285, x286, x287, x288, x289, x290, x291, x292, x293, x294, x295, x296, x297, x298, x299, x300, x301, x302, x303, x304, x305, x306, x307, x308, x309, x310, x311, x312, x313, x314, x315, x316, x317, x318, x319, x320, x321, x322, x323, x324, x325, x326, x327, x328, x329, x330, x331, x332, x333, x334, x335, x336, x337, x338, x339, x340, x341, x342, x343, x344, x345, x346, x347, x348, x349, x350, x351, x352, x353, x354, x355, x356, x357, x358, x359, x360, x361, x362, x363, x364, x365, x366, x367, x368, x369, x370, x371, x372, x373, x374, x375, x376, x377, x378, x379, x380, x381, x382, x383, x384, x385, x386, x387, x388, x389, x390, x391, x392, x393, x394, x395, x396, x397, x398, x399, x400, x401, x402, x403, x404, x405, x406, x407, x408, x409, x410, x411, x412, x413, x414, x415, x416, x417, x418, x419, x420, x421, x422, x423, x424, x425, x426, x427, x428, x429, x430, x431, x432, x433, x434, x435, x436, x437, x438, x439, x440, x441, x442, x443, x444, x445, x446, x447, x448, x449, x450, x451, x452, x453, x454, x455, x456, x457, x458, x459, x460, x461, x462, x463, x464, x465, x466, x467, x468, x469, x470, x471, x472, x473, x474, x475, x476, x477, x478, x479, x480, x481, x482, x483, x484, x485, x486, x487, x488, x489, x490, x491, x492, x493, x494, x495, x496, x497, x498, x499, x500, x501, x502, x503, x504, x505, x506, x507, x508, x509, x510, x511, x512, x513, x514, x515, x516, x517, x518, x519, x520, x521, x522, x523, x524, x525, x526, x527, x528, x529, x530], defers := [] } w := by
  have hmm := and_mask h g.e0 hh (by have := hg.o2; omega)
  rw [← hg.o1] at hmm
  have hil : h % g.oldN < g.oldN := Nat.mod_lt _ hg.o4
  have ho3 := hg.o3
  have ho4 := hg.o4
  have hwo : IntKind.u64.wrap ((g.oldN : Int) - 1) = (g.oldN : Int) - 1 := by rw [IntKind.wrap_u64]; omega
  have HIE : Hid (∀ i, i = h % g.oldN → mig1 g p h = if p.mv i = true then p else moveP g p i) := fun i e => by subst e; rfl
  generalize hi0 : h % g.oldN = i0 at hmm hil HIE
  have hw64 : wrap64 (i0 : Int) = i0 := by unfold wrap64; omega
  have HI0 : Hid (h % g.oldN = i0) := hi0
  have HIM : Hid (mig1 g p h = if p.mv i0 = true then p else moveP g p i0) := HIE.out i0 rfl
  clear hi0 HIE
  have z2 : w.cell? ⟨z.Bz, 2, none⟩ = some (.slice (some ⟨z.Bv, 0, none⟩) g.oldN g.oldN) := hb.mz.zr.cell (by omega)
  have zv : w.cell? ⟨z.Bv, i0, none⟩ = some (.bool (p.mv i0)) := hb.mz.mr.cell hil
  have HB : Hid (Start z g wz w p V F ov Fo ovo) := hb
  have HG : Hid g.Ok := hg
  have HC : Hid (∃ N G, Row w g.Bc N 3 G) := hc
  -- the model behind its first move
  have hp1 : (mig1 g p h).Ok g 327680 := by
    rw [HIM.out]
    split
    · exact ⟨fun j => Nat.le_trans (hb.pk.l1 j) (by omega), hb.pk.o1, Nat.le_trans hb.pk.v1 (by omega), Nat.le_trans hb.pk.c1 (by omega), hb.pk.g1, hb.pk.nxl, hb.pk.nxs, hb.pk.lok, hb.pk.ook⟩
    · exact hb.pk.move (by have := hb.mg; omega) i0
  have hg1 : (mig1 g p h).mig ≤ 8 := by
    rw [HIM.out]
    have := hb.mg
    split
    · omega
    · show p.mig + 1 ≤ 8; omega
  have HP1 : Hid ((mig1 g p h).Ok g 327680 ∧ (mig1 g p h).mig ≤ 8) := ⟨hp1, hg1⟩
  have HMM : Hid (p.mv i0 = false → Calls Yba.prog 8 #[.pointer (some ⟨z.Bz, 0, none⟩), .int .i64 i0] w fun e w' => e = .returned (.tuple #[]) ∧ ∃ V', MZ z g w' (mig1 g p h) V' ∧ K31 z.base w.heap.size (fun b => b = z.Bz ∨ b = z.Bv ∨ b = z.Bol ∨ b = z.Bnl) w w') := fun hm => by
    rw [HIM.out, if_neg (by rw [hm]; decide)]
    exact model_move hg hb.pk (by omega) hb.mz hil hb.nx
  have HID : Hid (p.mv i0 = true → mig1 g p h = p) := fun hm => by rw [HIM.out, if_pos hm]
  have HKN : Hid (kn = g.len ∧ h < 18446744073709551616) := ⟨hkn, hh⟩
  have HMP : Hid (migP g p h = if (mig1 g p h).nx = g.oldN then mig1 g p h else moveP g (mig1 g p h) (mig1 g p h).nx) := rfl
  have HMG : Hid (∀ w2 : World, MS g w2 p F ov Fo ovo → Calls Yba.prog 9 #[.pointer (some ⟨g.Bm, 0, none⟩), .int .u64 h] w2 fun e w' => e = .returned (.tuple #[]) ∧ ∃ F' ov' Fo', MS g w' (migP g p h) F' ov' Fo' ovo ∧ Stay w2.heap.size (Touch g ov p.L) w2 w' ∧ (∀ b, Mine g.Bn g.newN ov' (migP g p h).L b → Mine g.Bn g.newN ov p.L b ∨ w2.heap.size ≤ b)) := fun w2 h2 => migrate_ms hg hb.pk (by omega) (by have := hb.mg; omega) h2 hh hb.nx
  conv => arg 2; whnf
  clear hb hg hc hkn hh hp1 hg1 HIM
  generalize mig1 g p h = p1 at HP1 HMM HID HMP
  generalize migP g p h = p2 at HMP HMG
  go_upto_if 279 with (fail)
  go_cut [] from 278 to 282 (fun wx => ∃ V1, MZ z g wx p1 V1 ∧ K31 z.base w.heap.size (fun b => b = z.Bz ∨ b = z.Bv ∨ b = z.Bol ∨ b = z.Bnl) w wx)
  case first =>
    cases hmv : p.mv i0 with
    | true =>
      have HE : Hid _ := HID.out hmv
      clear hmv
      go_wp2_with fail
      go_meet
      case rel => exact ⟨V, by rw [HE.out]; exact HB.out.mz, K31.refl _ _ _ w⟩
    | false =>
      have HC1 : Hid _ := HMM.out hmv
      clear hmv
      go_wp2_with (go_at_call 8; refine Calls.mono HC1.out ?_; rintro e w' ⟨rfl, hr9⟩)
      go_meet
      case rel => exact hr9
  case rest =>
    obtain ⟨V1, hz1, hk1⟩ := hcut
    rename World => w1
    have H1 : Hid (MZ z g w1 p1 V1 ∧ K31 z.base w.heap.size (fun b => b = z.Bz ∨ b = z.Bv ∨ b = z.Bol ∨ b = z.Bnl) w w1) := ⟨hz1, hk1⟩
    have y6 : w1.cell? ⟨z.Bz, 6, none⟩ = some (.bool (decide (p1.nx = g.oldN))) := hz1.zr.cell (by omega)
    have y5 : w1.cell? ⟨z.Bz, 5, none⟩ = some (.int .i64 p1.nx) := hz1.zr.cell (by omega)
    have HM2 : Hid (¬ p1.nx = g.oldN → Calls Yba.prog 8 #[.pointer (some ⟨z.Bz, 0, none⟩), .int .i64 p1.nx] w1 fun e w' => e = .returned (.tuple #[]) ∧ ∃ V', MZ z g w' p2 V' ∧ K31 z.base w1.heap.size (fun b => b = z.Bz ∨ b = z.Bv ∨ b = z.Bol ∨ b = z.Bnl) w1 w') := fun hne => by
      rw [HMP.out, if_neg hne]
      have hlt : p1.nx < g.oldN := by have := HP1.out.1.nxl; omega
      exact model_move HG.out HP1.out.1 (by omega) hz1 hlt hlt
    generalize hEE : decide (p1.nx = g.oldN) = ed at y6
    have HED : Hid (decide (p1.nx = g.oldN) = ed) := hEE
    clear hz1 hk1 z2 zv hEE
    go_upto_if 287 with (fail)
    go_cut [] from 286 to 293 (fun wx => ∃ V2, MZ z g wx p2 V2 ∧ K31 z.base w.heap.size (fun b => b = z.Bz ∨ b = z.Bv ∨ b = z.Bol ∨ b = z.Bnl) w wx)
    case first =>
      cases ed with
      | true =>
        have HE : Hid (p2 = p1) := by show _ = _; rw [HMP.out, if_pos (of_decide_eq_true HED.out)]
        go_wp2_with fail
        go_meet
        case rel => exact ⟨V1, by rw [HE.out]; exact H1.out.1, H1.out.2⟩
      | false =>
        have HC2 : Hid _ := HM2.out (of_decide_eq_false HED.out)
        go_wp2_with (go_at_call 8; refine Calls.mono HC2.out ?_; rintro e w' ⟨rfl, hr9⟩)
        go_meet
        case rel =>
          obtain ⟨V2, h8, h9⟩ := hr9
          exact ⟨V2, h8, H1.out.2.trans h9 H1.out.2.size⟩
    case rest =>
      obtain ⟨V2, hz2, hk2⟩ := hcut
      rename World => w2
      have hms2 := HB.out.ms.k31 HB.out.mz HC.out hk2
      have HCC : Hid _ := HMG.out w2 hms2
      have H2 : Hid (MZ z g w2 p2 V2 ∧ K31 z.base w.heap.size (fun b => b = z.Bz ∨ b = z.Bv ∨ b = z.Bol ∨ b = z.Bnl) w w2 ∧ MS g w2 p F ov Fo ovo) := ⟨hz2, hk2, hms2⟩
      clear hz2 hk2 hms2 y5 y6
      go_upto_region 59 with (fail)
      go_cut [] from 294 to 296 (fun wx => ∃ F' ov' Fo', Both z g wz wx p2 V2 F' ov' Fo' ovo)
      case first =>
        go_wp2_with (go_at_call 9; refine Calls.mono HCC.out ?_; rintro e w3 ⟨rfl, F', ov', Fo', h7, h8, h9⟩)
        go_meet
        case rel =>
          obtain ⟨hz2, hk2, hms2⟩ := H2.out
          have hc2 : ∃ N G, Row w2 g.Bc N 3 G := by
            obtain ⟨N, G, hc⟩ := HC.out
            exact ⟨N, G, hc.k31 hk2 hc.lt (by
              rintro (e | e | e | e)
              · exact hc.ne HB.out.mz.zr (by decide) e
              · exact hc.ne HB.out.mz.mr (by decide) e
              · exact hc.ne HB.out.mz.orr (by decide) e
              · exact hc.ne HB.out.mz.nr (by decide) e) (by decide)⟩
          refine ⟨F', ov', Fo', ⟨h7, hz2.touch hms2 hc2 h8, ?_, ?_⟩⟩
          · rw [HMP.out]
            split
            · have q := HP1.out.1
              exact ⟨fun j => Nat.le_trans (q.l1 j) (by omega), q.o1, Nat.le_trans q.v1 (by omega), Nat.le_trans q.c1 (by omega), q.g1, q.nxl, q.nxs, q.lok, q.ook⟩
            · have q := HP1.out.1.move (by have := HP1.out.2; omega) p1.nx
              exact ⟨fun j => Nat.le_trans (q.l1 j) (by omega), q.o1, Nat.le_trans q.v1 (by omega), Nat.le_trans q.c1 (by omega), q.g1, q.nxl, q.nxs, q.lok, q.ook⟩
          · have b := HB.out
            have hsz := b.st.size
            refine ⟨h8.os.trans (hk2.os.trans b.st.os), h8.tape.trans (hk2.tape.trans b.st.tape), h8.output.trans (hk2.output.trans b.st.output), Nat.le_trans hsz (Nat.le_trans hk2.size h8.size), fun i hi hs => (h8.block i (by have := hk2.size; omega) (fun e => by have := b.lt i e; omega)).trans ((hk2.block i (by omega) (by have := b.lz; omega) (fun hbs => by have := b.bs; omega)).trans (b.st.block i hi hs))⟩
      case rest =>
        obtain ⟨F', ov', Fo', hB9⟩ := hcut
        go_step
        exact t4 HG.out HKN.out.1 hB9
end Go.Proofs.Ybulkeaqa
