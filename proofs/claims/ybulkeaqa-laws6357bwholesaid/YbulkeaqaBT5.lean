/- S6357B: the law, its last part. -/
import Derived.Test.YbulkeaqaBOpq
namespace Go.Proofs.Ybulkeaqa
open Go.RowKit Go.Shelf
set_option linter.unusedSimpArgs false
attribute [local go_sem] Oper.semAt_some eql33

/-- The map and the model stand alike. -/
structure Both (z : ZG) (g : Geo) (wz w : World) (p : Pl) (V F : Nat → Value) (ov : Nat → Nat → Nat) (Fo : Nat → Value) (ovo : Nat → Nat → Nat) : Prop where
  ms : MS g w p F ov Fo ovo
  mz : MZ z g w p V
  pk : p.Ok g 400000
  st : Stay wz.heap.size (fun _ => False) wz w
theorem MS.stay {g : Geo} {w w' : World} {p : Pl} {F : Nat → Value} {ov : Nat → Nat → Nat} {Fo : Nat → Value} {ovo : Nat → Nat → Nat} (h : MS g w p F ov Fo ovo) (hs : Stay w.heap.size (fun _ => False) w w') : MS g w' p F ov Fo ovo := by
  have hbc := World.block_lt_of_cell? w _ h.cc
  exact ⟨h.map.stay hs h.map.lt id, h.fam.on fun b hb => hs.block b (h.fam.lt hb) id, h.old.stay hs h.old.lt id, fun i hi hm => ⟨(h.och i hi hm).head, fun t h1 h2 => ((h.och i hi hm).ovs t h1 h2).stay hs ((h.och i hi hm).ovs t h1 h2).lt id, (h.och i hi hm).ne, (h.och i hi hm).inj⟩, h.omv, hs.some h.cc, (World.frozen?_of_block (a := ⟨g.Bc, 0, none⟩) (hs.block g.Bc hbc id)).trans h.cf, h.mM, h.mC, h.mO, h.mV⟩
theorem MZ.stay {z : ZG} {g : Geo} {w w' : World} {p : Pl} {V : Nat → Value} (h : MZ z g w p V) (hs : Stay w.heap.size (fun _ => False) w w') : MZ z g w' p V :=
  ⟨h.zr.stay hs h.zr.lt id, h.mr.stay hs h.mr.lt id, h.nr.stay hs h.nr.lt id, h.orr.stay hs h.orr.lt id, h.ls.on fun _ k hj hk => hs.block k (h.ls.kind hj hk).1 id, h.ne, Nat.le_trans h.bs hs.size⟩
theorem Both.stay {z : ZG} {g : Geo} {wz w w' : World} {p : Pl} {V F : Nat → Value} {ov : Nat → Nat → Nat} {Fo : Nat → Value} {ovo : Nat → Nat → Nat} (h : Both z g wz w p V F ov Fo ovo) (hs : Stay w.heap.size (fun _ => False) w w') : Both z g wz w' p V F ov Fo ovo :=
  ⟨h.ms.stay hs, h.mz.stay hs, h.pk, h.st.next hs⟩
theorem neq_step (w : World) : (binOp .neq 39 (.agg mvA) (.agg mvA)).run Yba.prog w = .ok (.bool false) w := neq39 w
theorem mvA_at {k : Nat} (h : k < 25) : mvA.toList[k]? = some (mvc k) := by
  rcases (show k = 0 ∨ k = 1 ∨ k = 2 ∨ k = 3 ∨ k = 4 ∨ k = 5 ∨ k = 6 ∨ k = 7 ∨ k = 8 ∨ k = 9 ∨ k = 10 ∨ k = 11 ∨ k = 12 ∨ k = 13 ∨ k = 14 ∨ k = 15 ∨ k = 16 ∨ k = 17 ∨ k = 18 ∨ k = 19 ∨ k = 20 ∨ k = 21 ∨ k = 22 ∨ k = 23 ∨ k = 24 by omega) with rfl | rfl | rfl | rfl | rfl | rfl | rfl | rfl | rfl | rfl | rfl | rfl | rfl | rfl | rfl | rfl | rfl | rfl | rfl | rfl | rfl | rfl | rfl | rfl | rfl <;> rfl
theorem mv_range {w : World} {b N o : Nat} {F : Nat → Value} (hr : Row w b N 39 F) (hN : o + 25 ≤ N) (hF : ∀ k, k < 25 → F (o + k) = mvc k) : w.rangeAt b o mvA.toList := fun j v hj => by
  have h1 : j < 25 := by
    have := (List.getElem?_eq_some_iff.1 hj).1
    simpa [mvA] using this
  rw [mvA_at h1] at hj
  rw [hr.cell (by omega), hF j h1]; exact hj

theorem ev {a : Act} {i : Nat} {v : Value} (h : a.tmps[i]? = some v) : a.eval (.tmp i) = v := by simp [Act.eval, h]
theorem neq_op {a : Act} {o : Oper} (x y : Nat) (ho : o.op = .binOp .neq 39 (.tmp x) (.tmp y) 39) (hx : a.eval (.tmp x) = .agg mvA) (hy : a.eval (.tmp y) = .agg mvA) (w : World) : (execOp a.eval o).run Yba.prog w = .ok (.value (.bool false)) w := by
  unfold execOp
  simp only [ho, hx, hy]
  kernel_rfl

set_option maxHeartbeats 4000000 in
set_option maxRecDepth 100000 in
theorem t5 {z : ZG} {g : Geo} {wz w : World} {p : Pl} {V F : Nat → Value} {ov : Nat → Nat → Nat} {Fo : Nat → Value} {ovo : Nat → Nat → Nat} {x0 x1 x2 x3 x4 x5 x6 x7 x8 x9 x10 x11 x12 x15 x17 x18 x19 x20 x21 x22 x23 x24 x25 x26 x27 x28 x29 x30 x31 x33 x34 x35 x36 x37 x38 x39 x40 x41 x42 x43 x44 x45 x46 x47 x48 x49 x50 x51 x52 x53 x54 x55 x56 x57 x58 x59 x60 x61 x62 x63 x64 x65 x66 x67 x68 x69 x70 x71 x72 x73 x74 x75 x76 x77 x78 x79 x80 x81 x82 x83 x84 x85 x86 x87 x88 x89 x90 x91 x92 x93 x94 x95 x96 x97 x98 x99 x100 x101 x102 x103 x104 x105 x106 x107 x108 x109 x110 x111 x112 x113 x114 x115 x116 x117 x118 x119 x120 x121 x122 x123 x124 x125 x126 x127 x128 x129 x130 x131 x132 x133 x134 x135 x136 x137 x138 x139 x140 x141 x142 x143 x144 x145 x146 x147 x148 x149 x150 x151 x152 x153 x154 x155 x156 x157 x158 x159 x160 x161 x162 x163 x164 x165 x166 x167 x168 x169 x170 x171 x172 x173 x174 x175 x176 x177 x178 x179 x180 x181 x182 x183 x184 x185 x186 x187 x188 x189 x190 x191 x192 x193 x194 x195 x196 x197 x198 x199 x200 x201 x202 x203 x204 x205 x206 x207 x208 x209 x210 x211 x212 x213 x214 x215 x216 x217 x218 x219 x220 x221 x222 x223 x224 x225 x226 x227 x228 x229 x230 x231 x232 x233 x234 x235 x236 x237 x238 x239 x240 x241 x242 x243 x244 x245 x246 x247 x248 x249 x250 x251 x252 x253 x254 x255 x256 x257 x258 x259 x260 x261 x262 x263 x264 x265 x266 x267 x268 x269 x270 x271 x272 x273 x274 x275 x276 x277 x278 x279 x280 x281 x282 x283 x284 x285 x286 x287 x288 x289 x290 x291 x292 x293 x294 x295 x296 x297 x298 x299 x300 x301 x302 x303 x304 x305 x306 x307 x308 x309 x310 x311 x312 x313 x314 x315 x316 x317 x318 x319 x320 x321 x322 x323 x324 x325 x326 x327 x328 x329 x330 x331 x332 x333 x334 x335 x336 x337 x338 x339 x340 x341 x342 x343 x344 x345 x346 x347 x348 x349 x350 x351 x352 x353 x354 x355 x356 x357 x358 x359 x360 x361 x362 x363 x364 x365 x366 x367 x368 x369 x370 x371 x372 x373 x374 x375 x376 x377 x378 x379 x380 x381 x382 x383 x384 x385 x386 x387 x388 x389 x390 x391 x392 x393 x394 x395 x396 x397 x398 x399 x400 x401 x402 x403 x404 x405 x406 x407 x408 x409 x410 x411 x412 x413 x414 x415 x416 x417 x418 x419 x420 x421 x422 x423 x424 x425 x426 x427 x428 x429 x430 x431 x432 x433 x434 x435 x436 x437 x438 x439 x440 x441 x442 x443 x444 x445 x446 x447 x448 x449 x450 x451 x452 x453 x454 x455 x456 x457 x458 x459 x460 x461 x462 x463 x464 x465 x466 x467 x468 x469 x470 x471 x472 x473 x474 x475 x476 x477 x478 x479 x480 x481 x482 x483 x484 x485 x486 x487 x488 x489 x490 x491 x492 x493 x494 x495 x496 x497 x498 x499 x500 x501 x502 x503 x504 x505 x506 x507 x508 x509 x510 x511 x512 x513 x514 x515 x516 x517 x518 x519 x520 x521 x522 x523 x524 x525 x526 x527 x528 x529 x530 : Value} (hg : g.Ok) (hb : Both z g wz w p V F ov Fo ovo) :
    Code.wp Yba.prog (dropSeq 30 (bodyOf Yba.f3)) (bodyPost Yba.prog Yba.f3 fun e w' => e = .returned (.bool true) ∧ Stay wz.heap.size (fun _ => False) wz w')
      { tmps := #[x0, x1, x2, x3, x4, x5, x6, x7, x8, x9, x10, x11, x12, .int .i64 g.oldN, .int .i64 g.newN, x15, .pointer (some ⟨z.Bz, 0, none⟩), x17, x18, x19, x20, x21, x22, x23, x24, x25, x26, x27, x28, x29, x30, x31, .pointer (some ⟨g.Bm, 0, none⟩), x33, x34, x35, x36, x37, x38, x39, x40, x41, x42, x43, x44, x45, x46, x47, x48, x49, x50, x51, x52, x53, x54, x55, x56, x57, x58, x59, x60, x61, x62, x63, x64, x65, x66, x67, x68, x69, x70, x71, x72, x73, x74, x75, x76, x77, x78, x79, x80, x81, x82, x83, x84, x85, x86, x87, x88, x89, x90, x91, x92, x93, x94, x95, x96, x97, x98, x99, x100, x101, x102, x103, x104, x105, x106, x107, x108, x109, x110, x111, x112, x113, x114, x115, x116, x117, x118, x119, x120, x121, x122, x123, x124, x125, x126, x127, x128, x129, x130, x131, x132, x133, x134, x135, x136, x137, x138, x139, x140, x141, x142, x143, x144, x145, x146, x147, x148, x149, x150, x151, x152, x153, x154, x155, x156, x157, x158, x159, x160, x161, x162, x163, x164, x165, x166, x167, x168, x169, x170, x171, x172, x173, x174, x175, x176, x177, x178, x179, x180, x181, x182, x183, x184, x185, x186, x187, x188, x189, x190, x191, x192, x193, x194, x195, x196, x197, x198, x199, x200, x201, x202, x203, x204, x205, x206, x207, x208, x209, x210, x211, x212, x213, x214, x215, x216, x217, x218, x219, x220, x221, x222, x223, x224, x225, x226, x227, x228, x229, x230, x231, x232, x233, x234, x235, x236, x237, x238, x239, x240, x241, x242, x243, x244, x245, x246, x247, x248, x249, x250, x251, x252, x253, x254, x255, x256, x257, x258, x259, x260, x261, x262, x263, x264, x265, x266, x267, x268, x269, x270, x271, x272, x273, x274, x275, x276, x277, x278, x279, x280, x281, x282, x283, x284, x285, x286, x287, x288, x289, x290, x291, x292, x293, x294, x295, x296, x297, x298, x299, x300, x301, x302, x303, x304, x305, x306, x307, x308, x309, x310, x311, x312, x313, x314, x315, x316, x317, x318, x319, x320, x321, x322, x323, x324, x325, x326, x327, x328, x329, x330, x331, x332, x333, x334, x335, x336, x337, x338, x339, x340, x341, x342, x343, x344, x345, x346, x347, x348, x349, x350, x351, x352, x353, x354, x355, x356, x357, x358, x359, x360, x361, x362, x363, x364, x365, x366, x367, x368, x369, x370, x371, x372, x373, x374, x375, x376, x377, x378, x379, x380, x381, x382, x383, x384, x385, x386, x387, x388, x389, x390, x391, x392, x393, x394, x395, x396, x397, x398, x399, x400, x401, x402, x403, x404, x405, x406, x407, x408, x409, x410, x411, x412, x413, x414, x415, x416, x417, x418, x419, x420, x421, x422, x423, x424, x425, x426, x427, x428, x429, x430, x431, x432, x433, x434, x435, x436, x437, x438, x439, x440, x441, x442, x443, x444, x445, x446, x447, x448, x449, x450, x451, x452, x453, x454, x455, x456, x457, x458, x459, x460, x461, x462, x463, x464, x465, x466, x467, x468, x469, x470, x471, x472, x473, x474, x475, x476, x477, x478, x479, x480, x481, x482, x483, x484, x485, x486, x487, x488, x489, x490, x491, x492, x493, x494, x495, x496, x497, x498, x499, x500, x501, x502, x503, x504, x505, x506, x507, x508, x509, x510, x511, x512, x513, x514, x515, x516, x517, x518, x519, x520, x521, x522, x523, x524, x525, x526, x527, x528, x529, x530], defers := [] } w := by
  have HB : Hid (Both z g wz w p V F ov Fo ovo) := hb
  have z6 : w.cell? ⟨z.Bz, 6, none⟩ = some (.bool (decide (p.nx = g.oldN))) := hb.mz.zr.cell (by omega)
  have ho3 := hg.o3
  have ho4 := hg.o4
  conv => arg 2; whnf
  by_cases he : p.nx = g.oldN
  · have hM : Row w g.Bm 18 53 (mapE g.Bc g.Bn g.newN p.nx g.len p.ovc p.mig) := by
      have := hb.ms.map
      unfold mapN at this
      rwa [if_pos he] at this
    have hd : decide (p.nx = g.oldN) = true := decide_eq_true he
    have m6 : w.cell? ⟨g.Bm, 6, none⟩ = some (.int .i64 0) := hM.cell (by omega)
    have m7 : w.cell? ⟨g.Bm, 7, none⟩ = some (.slice none 0 0) := hM.cell (by omega)
    have m8 : w.cell? ⟨g.Bm, 8, none⟩ = some (.slice none 0 0) := hM.cell (by omega)
    have m9 : w.cell? ⟨g.Bm, 9, none⟩ = some (.int .i64 0) := hM.cell (by omega)
    rw [hd] at z6
    clear hb hM he hd
    go_wp2_with fail
    go_ret
    exact ⟨rfl, HB.out.st⟩
  · have hM : Row w g.Bm 18 53 (mapF g.Bc g.Bn g.Bo g.newN g.oldN p.nx g.len p.ovc p.mig) := by
      have := hb.ms.map
      unfold mapN at this
      rwa [if_neg he] at this
    have hd : decide (p.nx = g.oldN) = false := decide_eq_false he
    have m6 : w.cell? ⟨g.Bm, 6, none⟩ = some (.int .i64 g.oldN) := hM.cell (by omega)
    have m7 : w.cell? ⟨g.Bm, 7, none⟩ = some (.slice (some ⟨g.Bo, 0, none⟩) g.oldN g.oldN) := hM.cell (by omega)
    have m8 : w.cell? ⟨g.Bm, 8, none⟩ = some (.slice none 0 0) := hM.cell (by omega)
    have m9 : w.cell? ⟨g.Bm, 9, none⟩ = some (.int .i64 0) := hM.cell (by omega)
    have HM : Hid (Row w g.Bm 18 53 (mapF g.Bc g.Bn g.Bo g.newN g.oldN p.nx g.len p.ovc p.mig)) := hM
    rw [hd] at z6
    clear hb hM he hd
    go_upto_region 78 with (fail)
    obtain ⟨w1, hw1⟩ : ∃ w1, w.alloc (.cells mvA 39) = w1 := ⟨_, rfl⟩
    have S1 : Stay w.heap.size (fun _ => False) w w1 := by rw [← hw1]; exact (Stay.refl _ _ w).alloc (Nat.le_refl _) _
    have V1 : w1.rangeAt w.heap.size 0 mvA.toList := by
      rw [← hw1]
      exact mv_range (Row.new w mvA 39 mvc (fun k hk => by have := mvA_at (k := k) hk; rwa [Array.getElem?_toList] at this)) (by show 0 + 25 ≤ 25; omega) (fun k _ => by rw [Nat.zero_add])
    unfold mvA at hw1
    rw [hw1]
    have HB1 : Hid (Both z g wz w1 p V F ov Fo ovo) := HB.out.stay S1
    have HM1 : Hid (Row w1 g.Bm 18 53 (mapF g.Bc g.Bn g.Bo g.newN g.oldN p.nx g.len p.ovc p.mig)) := HM.out.stay S1 HM.out.lt id
    have HV1 : Hid (w1.rangeAt w.heap.size 0 mvA.toList) := V1
    generalize w.heap.size = Bv at HV1 ⊢
    clear hw1 S1 V1 z6 m6 m7 m8 m9 HB HM
    go_wp2_with fail
    go_loopw [494] (fun v wr => ∃ k : Nat, k ≤ g.oldN ∧ v = .int .i64 k ∧ Stay w1.heap.size (fun _ => False) w1 wr) (fun v _ => g.oldN - (intOf v).toNat)
    case atStart => exact ⟨0, Nat.zero_le _, rfl, Stay.refl _ _ w1⟩
    case round =>
      obtain ⟨k, hk, rfl, hS⟩ := hrel
      have HS : Hid (Stay w1.heap.size (fun _ => False) w1 wr) := hS
      have b2 := HB1.out.stay hS
      have HB2 : Hid (Both z g wz wr p V F ov Fo ovo) := b2
      have m7 : wr.cell? ⟨g.Bm, 7, none⟩ = some (.slice (some ⟨g.Bo, 0, none⟩) g.oldN g.oldN) := hS.some (HM1.out.cell (by omega))
      have z2 : wr.cell? ⟨z.Bz, 2, none⟩ = some (.slice (some ⟨z.Bv, 0, none⟩) g.oldN g.oldN) := b2.mz.zr.cell (by omega)
      by_cases hlt : k < g.oldN
      · have zv : wr.cell? ⟨z.Bv, k, none⟩ = some (.bool (p.mv k)) := b2.mz.mr.cell hlt
        cases hmv : p.mv k with
        | true =>
          rw [hmv] at zv
          have r1 : wr.rangeAt g.Bo (k * 25) mvA.toList := mv_range b2.ms.old (by omega) (fun j hj => b2.ms.omv k hlt hmv j hj)
          have r2 : wr.rangeAt Bv 0 mvA.toList := fun j v hj => hS.some (HV1.out j v hj)
          have HR1 : Hid _ := r1
          have HR2 : Hid _ := r2
          clear hS b2 hmv r1 r2
          go_upto_region 82 with (fail)
          have r1 : wr.drew.rangeAt g.Bo (k * 25) mvA.toList := HR1.out
          have r2 : wr.drew.rangeAt Bv 0 mvA.toList := HR2.out
          clear HR1 HR2
          have hSW : (fun w' : World => w'.cell? ⟨g.Bm, 7, none⟩ = some (.slice (some ⟨g.Bo, 0, none⟩) g.oldN g.oldN) ∧ w'.rangeAt g.Bo (k * 25) mvA.toList ∧ w'.rangeAt Bv 0 mvA.toList) wr.drew := ⟨m7, r1, r2⟩
          refine wp_region_noPanic ?_
          refine opq (fun a0 ha0 => ?_)
          have hz0 : Hid (a0.tmps.size = 531) := by show _ = _; rw [ha0.out]; rfl
          have e32_0 : a0.tmps[32]? = some (.pointer (some ⟨g.Bm, 0, none⟩)) := by rw [ha0.out]; rfl
          have e36_0 : a0.tmps[36]? = some (.int .i64 (k : Nat)) := by rw [ha0.out]; rfl
          have e35_0 : a0.tmps[35]? = some (.pointer (some ⟨Bv, 0, none⟩)) := by rw [ha0.out]; rfl
          refine wp_region_held_drew (S := (fun w' : World => w'.cell? ⟨g.Bm, 7, none⟩ = some (.slice (some ⟨g.Bo, 0, none⟩) g.oldN g.oldN) ∧ w'.rangeAt g.Bo (k * 25) mvA.toList ∧ w'.rangeAt Bv 0 mvA.toList)) (by kernel_rfl) hSW (fun _ => ?_)
          refine wpAnyH_take (i := 0) (v := .pointer (some ⟨g.Bm, 0, none⟩)) rfl (by kernel_rfl) (by kernel_rfl) (by kernel_rfl) (fun _ _ _ h => h) (Or.inl ⟨by rfl, ?_⟩) hSW ?_
          · rintro w' ⟨k1, k2, k3⟩; go_simp
          obtain ⟨a1, ha1⟩ : ∃ a1, a1 = a0.put (some 504) (.pointer (some ⟨g.Bm, 0, none⟩)) := ⟨_, rfl⟩
          refine wpAnyH_at ha1 ?_
          have hz1 : Hid (a1.tmps.size = 531) := put_size ha1 hz0.out
          have e36_1 := put_ne ha1 (by decide) e36_0
          have e35_1 := put_ne ha1 (by decide) e35_0
          have e504_1 := put_get ha1 (by rw [hz0.out]; decide)
          have Ha1 : Hid _ := ha1
          clear hz0 ha1 e32_0 e36_0 e35_0
          refine wpAnyH_take (i := 1) (v := .pointer (some ⟨g.Bm, 0, none⟩)) rfl (by kernel_rfl) (by kernel_rfl) (by kernel_rfl) (fun _ _ _ h => h) (Or.inl ⟨by rfl, ?_⟩) hSW ?_
          · rintro w' ⟨k1, k2, k3⟩; go_simp
          obtain ⟨a2, ha2⟩ : ∃ a2, a2 = a1.put (some 505) (.pointer (some ⟨g.Bm, 0, none⟩)) := ⟨_, rfl⟩
          refine wpAnyH_at ha2 ?_
          have hz2 : Hid (a2.tmps.size = 531) := put_size ha2 hz1.out
          have e36_2 := put_ne ha2 (by decide) e36_1
          have e35_2 := put_ne ha2 (by decide) e35_1
          have e505_2 := put_get ha2 (by rw [hz1.out]; decide)
          have Ha2 : Hid _ := ha2
          clear hz1 ha2 e36_1 e35_1 e504_1
          refine wpAnyH_take (i := 2) (v := .pointer (some ⟨g.Bm, 6, none⟩)) rfl (by kernel_rfl) (by kernel_rfl) (by kernel_rfl) (fun _ _ _ h => h) (Or.inl ⟨by rfl, ?_⟩) hSW ?_
          · rintro w' ⟨k1, k2, k3⟩; go_simp
          obtain ⟨a3, ha3⟩ : ∃ a3, a3 = a2.put (some 506) (.pointer (some ⟨g.Bm, 6, none⟩)) := ⟨_, rfl⟩
          refine wpAnyH_at ha3 ?_
          have hz3 : Hid (a3.tmps.size = 531) := put_size ha3 hz2.out
          have e36_3 := put_ne ha3 (by decide) e36_2
          have e35_3 := put_ne ha3 (by decide) e35_2
          have e506_3 := put_get ha3 (by rw [hz2.out]; decide)
          have Ha3 : Hid _ := ha3
          clear hz2 ha3 e36_2 e35_2 e505_2
          refine wpAnyH_take (i := 3) (v := .pointer (some ⟨g.Bm, 7, none⟩)) rfl (by kernel_rfl) (by kernel_rfl) (by kernel_rfl) (fun _ _ _ h => h) (Or.inl ⟨by rfl, ?_⟩) hSW ?_
          · rintro w' ⟨k1, k2, k3⟩; go_simp
          obtain ⟨a4, ha4⟩ : ∃ a4, a4 = a3.put (some 507) (.pointer (some ⟨g.Bm, 7, none⟩)) := ⟨_, rfl⟩
          refine wpAnyH_at ha4 ?_
          have hz4 : Hid (a4.tmps.size = 531) := put_size ha4 hz3.out
          have e36_4 := put_ne ha4 (by decide) e36_3
          have e35_4 := put_ne ha4 (by decide) e35_3
          have e507_4 := put_get ha4 (by rw [hz3.out]; decide)
          have Ha4 : Hid _ := ha4
          clear hz3 ha4 e36_3 e35_3 e506_3
          refine wpAnyH_take (i := 4) (v := .slice (some ⟨g.Bo, 0, none⟩) g.oldN g.oldN) rfl (by kernel_rfl) (by kernel_rfl) (by kernel_rfl) (fun _ _ _ h => h) (Or.inl ⟨by rfl, ?_⟩) hSW ?_
          · rintro w' ⟨k1, k2, k3⟩; go_simp
          obtain ⟨a5, ha5⟩ : ∃ a5, a5 = a4.put (some 508) (.slice (some ⟨g.Bo, 0, none⟩) g.oldN g.oldN) := ⟨_, rfl⟩
          refine wpAnyH_at ha5 ?_
          have hz5 : Hid (a5.tmps.size = 531) := put_size ha5 hz4.out
          have e36_5 := put_ne ha5 (by decide) e36_4
          have e35_5 := put_ne ha5 (by decide) e35_4
          have e508_5 := put_get ha5 (by rw [hz4.out]; decide)
          have Ha5 : Hid _ := ha5
          clear hz4 ha5 e36_4 e35_4 e507_4
          refine wpAnyH_take (i := 5) (v := .int .i64 (k : Nat)) rfl (by kernel_rfl) (by kernel_rfl) (by kernel_rfl) (fun _ _ _ h => h) (Or.inl ⟨by rfl, ?_⟩) hSW ?_
          · rintro w' ⟨k1, k2, k3⟩; go_simp
          obtain ⟨a6, ha6⟩ : ∃ a6, a6 = a5.put (some 509) (.int .i64 (k : Nat)) := ⟨_, rfl⟩
          refine wpAnyH_at ha6 ?_
          have hz6 : Hid (a6.tmps.size = 531) := put_size ha6 hz5.out
          have e35_6 := put_ne ha6 (by decide) e35_5
          have e508_6 := put_ne ha6 (by decide) e508_5
          have e509_6 := put_get ha6 (by rw [hz5.out]; decide)
          have Ha6 : Hid _ := ha6
          clear hz5 ha6 e36_5 e35_5 e508_5
          refine wpAnyH_take (i := 6) (v := .pointer (some ⟨g.Bo, k * 25, none⟩)) rfl (by kernel_rfl) (by kernel_rfl) (by kernel_rfl) (fun _ _ _ h => h) (Or.inl ⟨by rfl, ?_⟩) hSW ?_
          · rintro w' ⟨k1, k2, k3⟩; go_simp
          obtain ⟨a7, ha7⟩ : ∃ a7, a7 = a6.put (some 510) (.pointer (some ⟨g.Bo, k * 25, none⟩)) := ⟨_, rfl⟩
          refine wpAnyH_at ha7 ?_
          have hz7 : Hid (a7.tmps.size = 531) := put_size ha7 hz6.out
          have e35_7 := put_ne ha7 (by decide) e35_6
          have e510_7 := put_get ha7 (by rw [hz6.out]; decide)
          have Ha7 : Hid _ := ha7
          clear hz6 ha7 e35_6 e508_6 e509_6
          refine wpAnyH_take (i := 7) (v := .agg mvA) rfl (by kernel_rfl) (by kernel_rfl) (by kernel_rfl) (fun _ _ _ h => h) (yieldsIf_load_mid rfl 39 _ rfl g.Bo (k * 25) (ev e510_7) mvA.toList _ (fun w' hw => hw.2.1) Yba.underlying39 rfl (by kernel_rfl)) hSW ?_
          obtain ⟨a8, ha8⟩ : ∃ a8, a8 = a7.put (some 511) (.agg mvA) := ⟨_, rfl⟩
          refine wpAnyH_at ha8 ?_
          have hz8 : Hid (a8.tmps.size = 531) := put_size ha8 hz7.out
          have e35_8 := put_ne ha8 (by decide) e35_7
          have e511_8 := put_get ha8 (by rw [hz7.out]; decide)
          have Ha8 : Hid _ := ha8
          clear hz7 ha8 e35_7 e510_7
          refine wpAnyH_take (i := 8) (v := .agg mvA) rfl (by kernel_rfl) (by kernel_rfl) (by kernel_rfl) (fun _ _ _ h => h) (yieldsIf_load_mid rfl 39 _ rfl Bv 0 (ev e35_8) mvA.toList _ (fun w' hw => hw.2.2) Yba.underlying39 rfl (by kernel_rfl)) hSW ?_
          obtain ⟨a9, ha9⟩ : ∃ a9, a9 = a8.put (some 512) (.agg mvA) := ⟨_, rfl⟩
          refine wpAnyH_at ha9 ?_
          have hz9 : Hid (a9.tmps.size = 531) := put_size ha9 hz8.out
          have e511_9 := put_ne ha9 (by decide) e511_8
          have e512_9 := put_get ha9 (by rw [hz8.out]; decide)
          have Ha9 : Hid _ := ha9
          clear hz8 ha9 e35_8 e511_8
          refine wpAnyH_take (i := 9) (v := .bool false) rfl (by kernel_rfl) (by kernel_rfl) (by kernel_rfl) (fun _ _ _ h => h) (Or.inl ⟨by rfl, fun w' _ => neq_op _ _ rfl (ev e511_9) (ev e512_9) w'⟩) hSW ?_
          obtain ⟨a10, ha10⟩ : ∃ a10, a10 = a9.put (some 513) (.bool false) := ⟨_, rfl⟩
          refine wpAnyH_at ha10 ?_
          have hz10 : Hid (a10.tmps.size = 531) := put_size ha10 hz9.out
          have e513_10 := put_get ha10 (by rw [hz9.out]; decide)
          have Ha10 : Hid _ := ha10
          clear hz9 ha10 e511_9 e512_9
          refine wpAnyH_done (by kernel_rfl) ?_ _
          refine NoPanic.normal ?_
          clear hSW
          have hfin : a10 = { tmps := #[x0, x1, x2, x3, x4, x5, x6, x7, x8, x9, x10, x11, u12, Value.int IntKind.i64 ↑g.oldN, Value.int IntKind.i64 ↑g.newN, x15, Value.pointer (some { block := z.Bz, off := 0 }), x17, x18, x19, x20, x21, x22, x23, x24, x25, x26, x27, x28, x29, x30, x31, Value.pointer (some { block := g.Bm, off := 0 }), x33, x34, Value.pointer (some { block := Bv, off := 0 }), Value.int IntKind.i64 ↑k, x37, x38, x39, x40, x41, x42, x43, x44, x45, x46, x47, x48, x49, x50, x51, x52, x53, x54, x55, x56, x57, x58, x59, x60, x61, x62, x63, x64, x65, x66, x67, x68, x69, x70, x71, x72, x73, x74, x75, x76, x77, x78, x79, x80, x81, x82, x83, x84, x85, x86, x87, x88, x89, x90, x91, x92, x93, x94, x95, x96, x97, x98, x99, x100, x101, x102, x103, x104, x105, x106, x107, x108, x109, x110, x111, x112, x113, x114, x115, x116, x117, x118, x119, x120, x121, x122, x123, x124, x125, x126, x127, x128, x129, x130, x131, x132, x133, x134, x135, x136, x137, x138, x139, x140, x141, x142, x143, x144, x145, x146, x147, x148, x149, x150, x151, x152, x153, x154, x155, x156, x157, x158, x159, x160, x161, x162, x163, x164, x165, x166, x167, x168, x169, x170, x171, x172, x173, x174, x175, x176, x177, x178, x179, x180, x181, x182, x183, x184, x185, x186, x187, x188, x189, x190, x191, x192, x193, x194, x195, x196, x197, x198, x199, x200, x201, x202, x203, x204, x205, x206, x207, x208, x209, x210, x211, x212, x213, x214, x215, x216, x217, x218, x219, x220, x221, x222, x223, x224, x225, x226, x227, x228, x229, x230, x231, x232, x233, x234, x235, x236, x237, x238, x239, x240, x241, x242, x243, x244, x245, x246, x247, x248, x249, x250, x251, x252, x253, x254, x255, x256, x257, x258, x259, x260, x261, x262, x263, x264, x265, x266, x267, x268, x269, x270, x271, x272, x273, x274, x275, x276, x277, x278, x279, x280, x281, x282, x283, x284, x285, x286, x287, x288, x289, x290, x291, x292, x293, x294, x295, x296, x297, x298, x299, x300, x301, x302, x303, x304, x305, x306, x307, x308, x309, x310, x311, x312, x313, x314, x315, x316, x317, x318, x319, x320, x321, x322, x323, x324, x325, x326, x327, x328, x329, x330, x331, x332, x333, x334, x335, x336, x337, x338, x339, x340, x341, x342, x343, x344, x345, x346, x347, x348, x349, x350, x351, x352, x353, x354, x355, x356, x357, x358, x359, x360, x361, x362, x363, x364, x365, x366, x367, x368, x369, x370, x371, x372, x373, x374, x375, x376, x377, x378, x379, x380, x381, x382, x383, x384, x385, x386, x387, x388, x389, x390, x391, x392, x393, x394, x395, x396, x397, x398, x399, x400, x401, x402, x403, x404, x405, x406, x407, x408, x409, x410, x411, x412, x413, x414, x415, x416, x417, x418, x419, x420, x421, x422, x423, Value.pointer (some { block := z.Bz, off := 0 }), Value.pointer (some { block := z.Bz, off := 0 }), Value.pointer (some { block := z.Bz, off := 6 }), Value.bool false, x428, x429, x430, x431, x432, x433, x434, x435, x436, x437, x438, x439, x440, x441, x442, x443, x444, x445, x446, x447, x448, x449, x450, x451, x452, x453, x454, x455, x456, x457, Value.pointer (some { block := g.Bm, off := 0 }), Value.pointer (some { block := g.Bm, off := 0 }), Value.pointer (some { block := g.Bm, off := 6 }), Value.pointer (some { block := g.Bm, off := 6 }), Value.int IntKind.i64 ↑g.oldN, Value.int IntKind.i64 ↑g.oldN, Value.bool false, Value.bool false, Value.pointer (some { block := g.Bm, off := 0 }), Value.pointer (some { block := g.Bm, off := 0 }), Value.pointer (some { block := g.Bm, off := 6 }), Value.pointer (some { block := g.Bm, off := 8 }), Value.slice none 0 0, Value.bool false, Value.bool false, Value.bool false, Value.pointer (some { block := g.Bm, off := 0 }), Value.pointer (some { block := g.Bm, off := 0 }), Value.pointer (some { block := g.Bm, off := 6 }), Value.pointer (some { block := g.Bm, off := 9 }), Value.int IntKind.i64 0, Value.bool false, Value.bool false, Value.bool false, Value.pointer (some { block := g.Bm, off := 0 }), Value.pointer (some { block := g.Bm, off := 0 }), Value.pointer (some { block := g.Bm, off := 6 }), Value.pointer (some { block := g.Bm, off := 7 }), Value.slice (some { block := g.Bo, off := 0 }) g.oldN g.oldN, Value.int IntKind.i64 ↑g.oldN, Value.int IntKind.i64 ↑g.oldN, Value.bool false, Value.bool false, Value.pointer (some { block := Bv, off := 0 }), Value.pointer (some { block := Bv, off := 0 }), Value.int IntKind.i64 ↑g.oldN, Value.int IntKind.i64 ↑k, Value.bool true, Value.int IntKind.i64 ↑k, Value.pointer (some { block := z.Bz, off := 0 }), Value.pointer (some { block := z.Bz, off := 0 }), Value.pointer (some { block := z.Bz, off := 2 }), Value.slice (some { block := z.Bv, off := 0 }) g.oldN g.oldN, Value.int IntKind.i64 ↑k, Value.pointer (some { block := z.Bv, off := k }), Value.bool true, .pointer (some ⟨g.Bm, 0, none⟩), .pointer (some ⟨g.Bm, 0, none⟩), .pointer (some ⟨g.Bm, 6, none⟩), .pointer (some ⟨g.Bm, 7, none⟩), .slice (some ⟨g.Bo, 0, none⟩) g.oldN g.oldN, .int .i64 (k : Nat), .pointer (some ⟨g.Bo, k * 25, none⟩), .agg mvA, .agg mvA, .bool false, u514, u515, u516, u517, u518, u519, u520, u521, u522, u523, u524, u525, u526, u527, u528, u529, u530], defers := [] } := by
            rw [Ha10.out, Ha9.out, Ha8.out, Ha7.out, Ha6.out, Ha5.out, Ha4.out, Ha3.out, Ha2.out, Ha1.out, ha0.out]
            kernel_rfl
          rw [hfin]
          clear hfin ha0 Ha1 Ha2 Ha3 Ha4 Ha5 Ha6 Ha7 Ha8 Ha9 Ha10 hz10 e513_10
          go_wp2_with fail
          exact ⟨⟨k + 1, by omega, by go_num, HS.out.drewN 1⟩, by simp [intOf]; omega⟩
        | false =>
          rw [hmv] at zv
          obtain ⟨sA, Bl, cL, hv, hLv, _⟩ := b2.mz.ls.lv (j := g.newN + k) (by omega)
          rw [LL_old] at hv hLv
          have z3 : wr.cell? ⟨z.Bz, 3, none⟩ = some (.slice (some ⟨z.Bol, 0, none⟩) g.oldN g.oldN) := b2.mz.zr.cell (by omega)
          have l3 : wr.cell? ⟨z.Bol, k, none⟩ = some (.slice sA (p.O k).length cL) := by rw [b2.mz.orr.cell hlt, hv]
          have HSM : Hid _ := same_any (p.O k) (by have := b2.pk.o1 k; omega) g.Bo (g.oldN * 25) (k * 25) Fo (ovo k) sA Bl cL wr.drew b2.ms.old.drew (by omega) ((b2.ms.drewN 1).och k hlt hmv) (hLv.on (fun _ => rfl))
          generalize (p.O k).length = nL at l3 HSM
          clear hS b2 hmv hv hLv
          go_upto_region 84 with (fail)
          have hSW : (fun w' : World => w'.cell? ⟨g.Bm, 7, none⟩ = some (.slice (some ⟨g.Bo, 0, none⟩) g.oldN g.oldN) ∧ w'.cell? ⟨z.Bz, 3, none⟩ = some (.slice (some ⟨z.Bol, 0, none⟩) g.oldN g.oldN) ∧ w'.cell? ⟨z.Bol, k, none⟩ = some (.slice sA nL cL)) wr.drew := ⟨m7, z3, l3⟩
          refine wp_region_noPanic ?_
          refine opq (fun a0 ha0 => ?_)
          have hz0 : Hid (a0.tmps.size = 531) := by show _ = _; rw [ha0.out]; rfl
          have e32_0 : a0.tmps[32]? = some (.pointer (some ⟨g.Bm, 0, none⟩)) := by rw [ha0.out]; rfl
          have e16_0 : a0.tmps[16]? = some (.pointer (some ⟨z.Bz, 0, none⟩)) := by rw [ha0.out]; rfl
          have e36_0 : a0.tmps[36]? = some (.int .i64 (k : Nat)) := by rw [ha0.out]; rfl
          refine wp_region_held_drew (S := (fun w' : World => w'.cell? ⟨g.Bm, 7, none⟩ = some (.slice (some ⟨g.Bo, 0, none⟩) g.oldN g.oldN) ∧ w'.cell? ⟨z.Bz, 3, none⟩ = some (.slice (some ⟨z.Bol, 0, none⟩) g.oldN g.oldN) ∧ w'.cell? ⟨z.Bol, k, none⟩ = some (.slice sA nL cL))) (by kernel_rfl) hSW (fun _ => ?_)
          refine wpAnyH_take (i := 0) (v := .pointer (some ⟨g.Bm, 0, none⟩)) rfl (by kernel_rfl) (by kernel_rfl) (by kernel_rfl) (fun _ _ _ h => h) (Or.inl ⟨by rfl, ?_⟩) hSW ?_
          · rintro w' ⟨k1, k2, k3⟩; go_simp
          obtain ⟨a1, ha1⟩ : ∃ a1, a1 = a0.put (some 514) (.pointer (some ⟨g.Bm, 0, none⟩)) := ⟨_, rfl⟩
          refine wpAnyH_at ha1 ?_
          have hz1 : Hid (a1.tmps.size = 531) := put_size ha1 hz0.out
          have e16_1 := put_ne ha1 (by decide) e16_0
          have e36_1 := put_ne ha1 (by decide) e36_0
          have e514_1 := put_get ha1 (by rw [hz0.out]; decide)
          have Ha1 : Hid _ := ha1
          clear hz0 ha1 e32_0 e16_0 e36_0
          refine wpAnyH_take (i := 1) (v := .pointer (some ⟨g.Bm, 0, none⟩)) rfl (by kernel_rfl) (by kernel_rfl) (by kernel_rfl) (fun _ _ _ h => h) (Or.inl ⟨by rfl, ?_⟩) hSW ?_
          · rintro w' ⟨k1, k2, k3⟩; go_simp
          obtain ⟨a2, ha2⟩ : ∃ a2, a2 = a1.put (some 515) (.pointer (some ⟨g.Bm, 0, none⟩)) := ⟨_, rfl⟩
          refine wpAnyH_at ha2 ?_
          have hz2 : Hid (a2.tmps.size = 531) := put_size ha2 hz1.out
          have e16_2 := put_ne ha2 (by decide) e16_1
          have e36_2 := put_ne ha2 (by decide) e36_1
          have e515_2 := put_get ha2 (by rw [hz1.out]; decide)
          have Ha2 : Hid _ := ha2
          clear hz1 ha2 e16_1 e36_1 e514_1
          refine wpAnyH_take (i := 2) (v := .pointer (some ⟨g.Bm, 6, none⟩)) rfl (by kernel_rfl) (by kernel_rfl) (by kernel_rfl) (fun _ _ _ h => h) (Or.inl ⟨by rfl, ?_⟩) hSW ?_
          · rintro w' ⟨k1, k2, k3⟩; go_simp
          obtain ⟨a3, ha3⟩ : ∃ a3, a3 = a2.put (some 516) (.pointer (some ⟨g.Bm, 6, none⟩)) := ⟨_, rfl⟩
          refine wpAnyH_at ha3 ?_
          have hz3 : Hid (a3.tmps.size = 531) := put_size ha3 hz2.out
          have e16_3 := put_ne ha3 (by decide) e16_2
          have e36_3 := put_ne ha3 (by decide) e36_2
          have e516_3 := put_get ha3 (by rw [hz2.out]; decide)
          have Ha3 : Hid _ := ha3
          clear hz2 ha3 e16_2 e36_2 e515_2
          refine wpAnyH_take (i := 3) (v := .pointer (some ⟨g.Bm, 7, none⟩)) rfl (by kernel_rfl) (by kernel_rfl) (by kernel_rfl) (fun _ _ _ h => h) (Or.inl ⟨by rfl, ?_⟩) hSW ?_
          · rintro w' ⟨k1, k2, k3⟩; go_simp
          obtain ⟨a4, ha4⟩ : ∃ a4, a4 = a3.put (some 517) (.pointer (some ⟨g.Bm, 7, none⟩)) := ⟨_, rfl⟩
          refine wpAnyH_at ha4 ?_
          have hz4 : Hid (a4.tmps.size = 531) := put_size ha4 hz3.out
          have e16_4 := put_ne ha4 (by decide) e16_3
          have e36_4 := put_ne ha4 (by decide) e36_3
          have e517_4 := put_get ha4 (by rw [hz3.out]; decide)
          have Ha4 : Hid _ := ha4
          clear hz3 ha4 e16_3 e36_3 e516_3
          refine wpAnyH_take (i := 4) (v := .slice (some ⟨g.Bo, 0, none⟩) g.oldN g.oldN) rfl (by kernel_rfl) (by kernel_rfl) (by kernel_rfl) (fun _ _ _ h => h) (Or.inl ⟨by rfl, ?_⟩) hSW ?_
          · rintro w' ⟨k1, k2, k3⟩; go_simp
          obtain ⟨a5, ha5⟩ : ∃ a5, a5 = a4.put (some 518) (.slice (some ⟨g.Bo, 0, none⟩) g.oldN g.oldN) := ⟨_, rfl⟩
          refine wpAnyH_at ha5 ?_
          have hz5 : Hid (a5.tmps.size = 531) := put_size ha5 hz4.out
          have e16_5 := put_ne ha5 (by decide) e16_4
          have e36_5 := put_ne ha5 (by decide) e36_4
          have e518_5 := put_get ha5 (by rw [hz4.out]; decide)
          have Ha5 : Hid _ := ha5
          clear hz4 ha5 e16_4 e36_4 e517_4
          refine wpAnyH_take (i := 5) (v := .int .i64 (k : Nat)) rfl (by kernel_rfl) (by kernel_rfl) (by kernel_rfl) (fun _ _ _ h => h) (Or.inl ⟨by rfl, ?_⟩) hSW ?_
          · rintro w' ⟨k1, k2, k3⟩; go_simp
          obtain ⟨a6, ha6⟩ : ∃ a6, a6 = a5.put (some 519) (.int .i64 (k : Nat)) := ⟨_, rfl⟩
          refine wpAnyH_at ha6 ?_
          have hz6 : Hid (a6.tmps.size = 531) := put_size ha6 hz5.out
          have e16_6 := put_ne ha6 (by decide) e16_5
          have e36_6 := put_ne ha6 (by decide) e36_5
          have e518_6 := put_ne ha6 (by decide) e518_5
          have e519_6 := put_get ha6 (by rw [hz5.out]; decide)
          have Ha6 : Hid _ := ha6
          clear hz5 ha6 e16_5 e36_5 e518_5
          refine wpAnyH_take (i := 6) (v := .pointer (some ⟨g.Bo, k * 25, none⟩)) rfl (by kernel_rfl) (by kernel_rfl) (by kernel_rfl) (fun _ _ _ h => h) (Or.inl ⟨by rfl, ?_⟩) hSW ?_
          · rintro w' ⟨k1, k2, k3⟩; go_simp
          obtain ⟨a7, ha7⟩ : ∃ a7, a7 = a6.put (some 520) (.pointer (some ⟨g.Bo, k * 25, none⟩)) := ⟨_, rfl⟩
          refine wpAnyH_at ha7 ?_
          have hz7 : Hid (a7.tmps.size = 531) := put_size ha7 hz6.out
          have e16_7 := put_ne ha7 (by decide) e16_6
          have e36_7 := put_ne ha7 (by decide) e36_6
          have e520_7 := put_get ha7 (by rw [hz6.out]; decide)
          have Ha7 : Hid _ := ha7
          clear hz6 ha7 e16_6 e36_6 e518_6 e519_6
          refine wpAnyH_take (i := 7) (v := .pointer (some ⟨z.Bz, 0, none⟩)) rfl (by kernel_rfl) (by kernel_rfl) (by kernel_rfl) (fun _ _ _ h => h) (Or.inl ⟨by rfl, ?_⟩) hSW ?_
          · rintro w' ⟨k1, k2, k3⟩; go_simp
          obtain ⟨a8, ha8⟩ : ∃ a8, a8 = a7.put (some 521) (.pointer (some ⟨z.Bz, 0, none⟩)) := ⟨_, rfl⟩
          refine wpAnyH_at ha8 ?_
          have hz8 : Hid (a8.tmps.size = 531) := put_size ha8 hz7.out
          have e36_8 := put_ne ha8 (by decide) e36_7
          have e520_8 := put_ne ha8 (by decide) e520_7
          have e521_8 := put_get ha8 (by rw [hz7.out]; decide)
          have Ha8 : Hid _ := ha8
          clear hz7 ha8 e16_7 e36_7 e520_7
          refine wpAnyH_take (i := 8) (v := .pointer (some ⟨z.Bz, 0, none⟩)) rfl (by kernel_rfl) (by kernel_rfl) (by kernel_rfl) (fun _ _ _ h => h) (Or.inl ⟨by rfl, ?_⟩) hSW ?_
          · rintro w' ⟨k1, k2, k3⟩; go_simp
          obtain ⟨a9, ha9⟩ : ∃ a9, a9 = a8.put (some 522) (.pointer (some ⟨z.Bz, 0, none⟩)) := ⟨_, rfl⟩
          refine wpAnyH_at ha9 ?_
          have hz9 : Hid (a9.tmps.size = 531) := put_size ha9 hz8.out
          have e36_9 := put_ne ha9 (by decide) e36_8
          have e520_9 := put_ne ha9 (by decide) e520_8
          have e522_9 := put_get ha9 (by rw [hz8.out]; decide)
          have Ha9 : Hid _ := ha9
          clear hz8 ha9 e36_8 e520_8 e521_8
          refine wpAnyH_take (i := 9) (v := .pointer (some ⟨z.Bz, 3, none⟩)) rfl (by kernel_rfl) (by kernel_rfl) (by kernel_rfl) (fun _ _ _ h => h) (Or.inl ⟨by rfl, ?_⟩) hSW ?_
          · rintro w' ⟨k1, k2, k3⟩; go_simp
          obtain ⟨a10, ha10⟩ : ∃ a10, a10 = a9.put (some 523) (.pointer (some ⟨z.Bz, 3, none⟩)) := ⟨_, rfl⟩
          refine wpAnyH_at ha10 ?_
          have hz10 : Hid (a10.tmps.size = 531) := put_size ha10 hz9.out
          have e36_10 := put_ne ha10 (by decide) e36_9
          have e520_10 := put_ne ha10 (by decide) e520_9
          have e523_10 := put_get ha10 (by rw [hz9.out]; decide)
          have Ha10 : Hid _ := ha10
          clear hz9 ha10 e36_9 e520_9 e522_9
          refine wpAnyH_take (i := 10) (v := .slice (some ⟨z.Bol, 0, none⟩) g.oldN g.oldN) rfl (by kernel_rfl) (by kernel_rfl) (by kernel_rfl) (fun _ _ _ h => h) (Or.inl ⟨by rfl, ?_⟩) hSW ?_
          · rintro w' ⟨k1, k2, k3⟩; go_simp
          obtain ⟨a11, ha11⟩ : ∃ a11, a11 = a10.put (some 524) (.slice (some ⟨z.Bol, 0, none⟩) g.oldN g.oldN) := ⟨_, rfl⟩
          refine wpAnyH_at ha11 ?_
          have hz11 : Hid (a11.tmps.size = 531) := put_size ha11 hz10.out
          have e36_11 := put_ne ha11 (by decide) e36_10
          have e520_11 := put_ne ha11 (by decide) e520_10
          have e524_11 := put_get ha11 (by rw [hz10.out]; decide)
          have Ha11 : Hid _ := ha11
          clear hz10 ha11 e36_10 e520_10 e523_10
          refine wpAnyH_take (i := 11) (v := .int .i64 (k : Nat)) rfl (by kernel_rfl) (by kernel_rfl) (by kernel_rfl) (fun _ _ _ h => h) (Or.inl ⟨by rfl, ?_⟩) hSW ?_
          · rintro w' ⟨k1, k2, k3⟩; go_simp
          obtain ⟨a12, ha12⟩ : ∃ a12, a12 = a11.put (some 525) (.int .i64 (k : Nat)) := ⟨_, rfl⟩
          refine wpAnyH_at ha12 ?_
          have hz12 : Hid (a12.tmps.size = 531) := put_size ha12 hz11.out
          have e520_12 := put_ne ha12 (by decide) e520_11
          have e524_12 := put_ne ha12 (by decide) e524_11
          have e525_12 := put_get ha12 (by rw [hz11.out]; decide)
          have Ha12 : Hid _ := ha12
          clear hz11 ha12 e36_11 e520_11 e524_11
          refine wpAnyH_take (i := 12) (v := .pointer (some ⟨z.Bol, k, none⟩)) rfl (by kernel_rfl) (by kernel_rfl) (by kernel_rfl) (fun _ _ _ h => h) (Or.inl ⟨by rfl, ?_⟩) hSW ?_
          · rintro w' ⟨k1, k2, k3⟩; go_simp
          obtain ⟨a13, ha13⟩ : ∃ a13, a13 = a12.put (some 526) (.pointer (some ⟨z.Bol, k, none⟩)) := ⟨_, rfl⟩
          refine wpAnyH_at ha13 ?_
          have hz13 : Hid (a13.tmps.size = 531) := put_size ha13 hz12.out
          have e520_13 := put_ne ha13 (by decide) e520_12
          have e526_13 := put_get ha13 (by rw [hz12.out]; decide)
          have Ha13 : Hid _ := ha13
          clear hz12 ha13 e520_12 e524_12 e525_12
          refine wpAnyH_take (i := 13) (v := .slice sA nL cL) rfl (by kernel_rfl) (by kernel_rfl) (by kernel_rfl) (fun _ _ _ h => h) (Or.inl ⟨by rfl, ?_⟩) hSW ?_
          · rintro w' ⟨k1, k2, k3⟩; go_simp
          obtain ⟨a14, ha14⟩ : ∃ a14, a14 = a13.put (some 527) (.slice sA nL cL) := ⟨_, rfl⟩
          refine wpAnyH_at ha14 ?_
          have hz14 : Hid (a14.tmps.size = 531) := put_size ha14 hz13.out
          have e520_14 := put_ne ha14 (by decide) e520_13
          have e527_14 := put_get ha14 (by rw [hz13.out]; decide)
          have Ha14 : Hid _ := ha14
          clear hz13 ha14 e520_13 e526_13
          refine wpAnyH_ready (rs := [14]) (by kernel_rfl) (by simp) ?_
          refine AllReadyH.cons rfl (fun K hK => ?_) AllReadyH.nil
          go_simp
          refine Calls.mono HSM.out ?_
          rintro e w5 ⟨rfl, hst5⟩
          have hS5 : (fun w' : World => w'.cell? ⟨g.Bm, 7, none⟩ = some (.slice (some ⟨g.Bo, 0, none⟩) g.oldN g.oldN) ∧ w'.cell? ⟨z.Bz, 3, none⟩ = some (.slice (some ⟨z.Bol, 0, none⟩) g.oldN g.oldN) ∧ w'.cell? ⟨z.Bol, k, none⟩ = some (.slice sA nL cL)) w5 := ⟨hst5.some hSW.1, hst5.some hSW.2.1, hst5.some hSW.2.2⟩
          have HST5 : Hid _ := hst5
          refine hK.out _ _ hS5 (fun _ => ?_)
          clear hK K hst5
          obtain ⟨a15, ha15⟩ : ∃ a15, a15 = a14.put (some 528) (.bool true) := ⟨_, rfl⟩
          refine wpAnyH_at ha15 ?_
          have hz15 : Hid (a15.tmps.size = 531) := put_size ha15 hz14.out
          have e528_15 := put_get ha15 (by rw [hz14.out]; decide)
          have Ha15 : Hid _ := ha15
          clear hz14 ha15 e520_14 e527_14
          refine wpAnyH_take (i := 15) (v := .bool false) rfl (by kernel_rfl) (by kernel_rfl) (by kernel_rfl) (fun _ _ _ h => h) (Or.inl ⟨by rfl, ?_⟩) hS5 ?_
          · rintro w' ⟨k1, k2, k3⟩; go_simp
          obtain ⟨a16, ha16⟩ : ∃ a16, a16 = a15.put (some 529) (.bool false) := ⟨_, rfl⟩
          refine wpAnyH_at ha16 ?_
          have hz16 : Hid (a16.tmps.size = 531) := put_size ha16 hz15.out
          have e529_16 := put_get ha16 (by rw [hz15.out]; decide)
          have Ha16 : Hid _ := ha16
          clear hz15 ha16 e528_15
          refine wpAnyH_done (by kernel_rfl) ?_ _
          refine NoPanic.normal ?_
          clear hS5 hSW
          have hfin : a16 = { tmps := #[x0, x1, x2, x3, x4, x5, x6, x7, x8, x9, x10, x11, u12, Value.int IntKind.i64 ↑g.oldN, Value.int IntKind.i64 ↑g.newN, x15, Value.pointer (some { block := z.Bz, off := 0 }), x17, x18, x19, x20, x21, x22, x23, x24, x25, x26, x27, x28, x29, x30, x31, Value.pointer (some { block := g.Bm, off := 0 }), x33, x34, Value.pointer (some { block := Bv, off := 0 }), Value.int IntKind.i64 ↑k, x37, x38, x39, x40, x41, x42, x43, x44, x45, x46, x47, x48, x49, x50, x51, x52, x53, x54, x55, x56, x57, x58, x59, x60, x61, x62, x63, x64, x65, x66, x67, x68, x69, x70, x71, x72, x73, x74, x75, x76, x77, x78, x79, x80, x81, x82, x83, x84, x85, x86, x87, x88, x89, x90, x91, x92, x93, x94, x95, x96, x97, x98, x99, x100, x101, x102, x103, x104, x105, x106, x107, x108, x109, x110, x111, x112, x113, x114, x115, x116, x117, x118, x119, x120, x121, x122, x123, x124, x125, x126, x127, x128, x129, x130, x131, x132, x133, x134, x135, x136, x137, x138, x139, x140, x141, x142, x143, x144, x145, x146, x147, x148, x149, x150, x151, x152, x153, x154, x155, x156, x157, x158, x159, x160, x161, x162, x163, x164, x165, x166, x167, x168, x169, x170, x171, x172, x173, x174, x175, x176, x177, x178, x179, x180, x181, x182, x183, x184, x185, x186, x187, x188, x189, x190, x191, x192, x193, x194, x195, x196, x197, x198, x199, x200, x201, x202, x203, x204, x205, x206, x207, x208, x209, x210, x211, x212, x213, x214, x215, x216, x217, x218, x219, x220, x221, x222, x223, x224, x225, x226, x227, x228, x229, x230, x231, x232, x233, x234, x235, x236, x237, x238, x239, x240, x241, x242, x243, x244, x245, x246, x247, x248, x249, x250, x251, x252, x253, x254, x255, x256, x257, x258, x259, x260, x261, x262, x263, x264, x265, x266, x267, x268, x269, x270, x271, x272, x273, x274, x275, x276, x277, x278, x279, x280, x281, x282, x283, x284, x285, x286, x287, x288, x289, x290, x291, x292, x293, x294, x295, x296, x297, x298, x299, x300, x301, x302, x303, x304, x305, x306, x307, x308, x309, x310, x311, x312, x313, x314, x315, x316, x317, x318, x319, x320, x321, x322, x323, x324, x325, x326, x327, x328, x329, x330, x331, x332, x333, x334, x335, x336, x337, x338, x339, x340, x341, x342, x343, x344, x345, x346, x347, x348, x349, x350, x351, x352, x353, x354, x355, x356, x357, x358, x359, x360, x361, x362, x363, x364, x365, x366, x367, x368, x369, x370, x371, x372, x373, x374, x375, x376, x377, x378, x379, x380, x381, x382, x383, x384, x385, x386, x387, x388, x389, x390, x391, x392, x393, x394, x395, x396, x397, x398, x399, x400, x401, x402, x403, x404, x405, x406, x407, x408, x409, x410, x411, x412, x413, x414, x415, x416, x417, x418, x419, x420, x421, x422, x423, Value.pointer (some { block := z.Bz, off := 0 }), Value.pointer (some { block := z.Bz, off := 0 }), Value.pointer (some { block := z.Bz, off := 6 }), Value.bool false, x428, x429, x430, x431, x432, x433, x434, x435, x436, x437, x438, x439, x440, x441, x442, x443, x444, x445, x446, x447, x448, x449, x450, x451, x452, x453, x454, x455, x456, x457, Value.pointer (some { block := g.Bm, off := 0 }), Value.pointer (some { block := g.Bm, off := 0 }), Value.pointer (some { block := g.Bm, off := 6 }), Value.pointer (some { block := g.Bm, off := 6 }), Value.int IntKind.i64 ↑g.oldN, Value.int IntKind.i64 ↑g.oldN, Value.bool false, Value.bool false, Value.pointer (some { block := g.Bm, off := 0 }), Value.pointer (some { block := g.Bm, off := 0 }), Value.pointer (some { block := g.Bm, off := 6 }), Value.pointer (some { block := g.Bm, off := 8 }), Value.slice none 0 0, Value.bool false, Value.bool false, Value.bool false, Value.pointer (some { block := g.Bm, off := 0 }), Value.pointer (some { block := g.Bm, off := 0 }), Value.pointer (some { block := g.Bm, off := 6 }), Value.pointer (some { block := g.Bm, off := 9 }), Value.int IntKind.i64 0, Value.bool false, Value.bool false, Value.bool false, Value.pointer (some { block := g.Bm, off := 0 }), Value.pointer (some { block := g.Bm, off := 0 }), Value.pointer (some { block := g.Bm, off := 6 }), Value.pointer (some { block := g.Bm, off := 7 }), Value.slice (some { block := g.Bo, off := 0 }) g.oldN g.oldN, Value.int IntKind.i64 ↑g.oldN, Value.int IntKind.i64 ↑g.oldN, Value.bool false, Value.bool false, Value.pointer (some { block := Bv, off := 0 }), Value.pointer (some { block := Bv, off := 0 }), Value.int IntKind.i64 ↑g.oldN, Value.int IntKind.i64 ↑k, Value.bool true, Value.int IntKind.i64 ↑k, Value.pointer (some { block := z.Bz, off := 0 }), Value.pointer (some { block := z.Bz, off := 0 }), Value.pointer (some { block := z.Bz, off := 2 }), Value.slice (some { block := z.Bv, off := 0 }) g.oldN g.oldN, Value.int IntKind.i64 ↑k, Value.pointer (some { block := z.Bv, off := k }), Value.bool false, u504, u505, u506, u507, u508, u509, u510, u511, u512, u513, .pointer (some ⟨g.Bm, 0, none⟩), .pointer (some ⟨g.Bm, 0, none⟩), .pointer (some ⟨g.Bm, 6, none⟩), .pointer (some ⟨g.Bm, 7, none⟩), .slice (some ⟨g.Bo, 0, none⟩) g.oldN g.oldN, .int .i64 (k : Nat), .pointer (some ⟨g.Bo, k * 25, none⟩), .pointer (some ⟨z.Bz, 0, none⟩), .pointer (some ⟨z.Bz, 0, none⟩), .pointer (some ⟨z.Bz, 3, none⟩), .slice (some ⟨z.Bol, 0, none⟩) g.oldN g.oldN, .int .i64 (k : Nat), .pointer (some ⟨z.Bol, k, none⟩), .slice sA nL cL, .bool true, .bool false, u530], defers := [] } := by
            rw [Ha16.out, Ha15.out, Ha14.out, Ha13.out, Ha12.out, Ha11.out, Ha10.out, Ha9.out, Ha8.out, Ha7.out, Ha6.out, Ha5.out, Ha4.out, Ha3.out, Ha2.out, Ha1.out, ha0.out]
            kernel_rfl
          rw [hfin]
          clear hfin ha0 Ha1 Ha2 Ha3 Ha4 Ha5 Ha6 Ha7 Ha8 Ha9 Ha10 Ha11 Ha12 Ha13 Ha14 Ha15 Ha16 hz16 e529_16
          go_wp2_with fail
          exact ⟨⟨k + 1, by omega, by go_num, HS.out.next (((Stay.refl _ _ wr).drewN 1).next HST5.out)⟩, by simp [intOf]; omega⟩
      · have ek : k = g.oldN := by omega
        clear hS b2
        go_wp2_with fail
        go_ret
        exact ⟨rfl, HB2.out.st⟩
end Go.Proofs.Ybulkeaqa
