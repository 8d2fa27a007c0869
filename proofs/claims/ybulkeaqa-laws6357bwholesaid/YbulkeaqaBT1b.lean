/- S6357B: the law, the old table. -/
import Derived.Test.YbulkeaqaBT2
import Derived.Test.YbulkeaqaBTab
namespace Go.Proofs.Ybulkeaqa
open Go.RowKit Go.Shelf
set_option linter.unusedSimpArgs false
attribute [local go_sem] Oper.semAt_some eql33

/-- The numbers of a Geo are right, whatever its blocks. -/
def GeoN (g : Geo) : Prop := ∀ bm bc bo, bm ≠ bc → bm ≠ bo → bc ≠ bo → Geo.Ok { g with Bm := bm, Bc := bc, Bo := bo }
/-- The new table and the model, ahead of the old table. -/
structure Pre1 (z : ZG) (g : Geo) (wz w : World) (p : Pl) (V F : Nat → Value) (ov : Nat → Nat → Nat) : Prop where
  fam : Fam w g.Bn g.newN F ov p.L
  mz : MZ z g w p V
  pk : p.Ok g 65536
  st : Stay wz.heap.size (fun _ => False) wz w
  nx : p.nx < g.oldN
  mg : p.mig = 7
  cl : p.cl = 0
  bs : z.base = wz.heap.size
  lz : wz.heap.size ≤ z.Bz ∧ wz.heap.size ≤ z.Bv ∧ wz.heap.size ≤ z.Bol ∧ wz.heap.size ≤ z.Bnl
  lt : ∀ b, Mine g.Bn g.newN ov p.L b → wz.heap.size ≤ b
  n3 : g.newN ≤ 32
  o3 : g.oldN ≤ 16
theorem MZ.key {z : ZG} {g : Geo} {w w' : World} {p : Pl} {V : Nat → Value} (hz : MZ z g w p V) (key : ∀ (b N : Nat) (t : TypeId) (F : Nat → Value), Row w b N t F → t ≠ 39 → w'.heap[b]? = w.heap[b]?) (hs : w.heap.size ≤ w'.heap.size) : MZ z g w' p V := by
  refine ⟨(key _ _ _ _ hz.zr (by decide)).trans hz.zr, (key _ _ _ _ hz.mr (by decide)).trans hz.mr, (key _ _ _ _ hz.nr (by decide)).trans hz.nr, (key _ _ _ _ hz.orr (by decide)).trans hz.orr, hz.ls.on fun j b hj hb => ?_, hz.ne, Nat.le_trans hz.bs hs⟩
  obtain ⟨_, a, ha⟩ := hz.ls.kind hj hb
  have hr : Row w b a.size 31 (fun k => a.getD k undef) := by
    show w.heap[b]? = _
    rw [ha, ← rowA_of a (fun k => a.getD k undef) (fun k hk => by simp [Array.getD, hk])]
  exact key _ _ _ _ hr (by decide)
theorem make39 (w : World) (n : Nat) (hn : n ≤ 100) : (Instr.makeSlice 33 (.int .i64 (n : Int)) (.int .i64 (n : Int))).run Yba.prog w = .ok (.slice (some ⟨w.heap.size, 0, none⟩) n n) (w.alloc (.cells (madeCells z25 (n * 25)) 39)) := by
  obtain ⟨i, hi, z0, z1, z2⟩ := info_parts (P := Yba.prog) (t := 39) (z := .agg z25) (s := 25) (b := 144) (by kernel_rfl)
  have := run_make (P := Yba.prog) w 33 39 i (.agg z25) Yba.underlying33 hi z0 .i64 .i64 n n (by omega) (by omega) (by rw [z2]; omega) (by omega)
  rw [z1] at this
  simp only [Int.toNat_natCast] at this
  exact this

set_option maxHeartbeats 4000000 in
set_option maxRecDepth 100000 in
theorem t1b {z : ZG} {g : Geo} {wz w : World} {p : Pl} {V F : Nat → Value} {ov : Nat → Nat → Nat} {kA : Option Addr} {kn kc h : Nat} {x0 x1 x2 x3 x6 x7 x8 x9 x10 x11 x12 x17 x18 x19 x20 x21 x22 x25 x26 x27 x28 x29 x30 x31 x32 x33 x34 x35 x36 x37 x38 x39 x40 x41 x42 x43 x44 x45 x46 x47 x48 x49 x50 x51 x52 x53 x54 x55 x56 x57 x58 x59 x60 x61 x62 x63 x64 x65 x66 x67 x68 x69 x70 x71 x72 x73 x74 x75 x76 x77 x78 x79 x80 x81 x82 x83 x84 x85 x86 x87 x88 x89 x90 x91 x92 x93 x94 x95 x96 x97 x98 x99 x100 x101 x102 x103 x104 x105 x106 x107 x108 x109 x110 x111 x112 x113 x114 x115 x116 x117 x118 x119 x120 x121 x122 x123 x124 x125 x126 x127 x128 x129 x130 x131 x132 x133 x134 x135 x136 x137 x138 x139 x140 x141 x142 x143 x144 x145 x146 x147 x148 x149 x150 x151 x152 x153 x154 x155 x156 x157 x158 x159 x160 x161 x162 x163 x164 x165 x166 x167 x168 x169 x170 x171 x172 x173 x174 x175 x176 x177 x178 x179 x180 x181 x182 x183 x184 x185 x186 x187 x188 x189 x190 x191 x192 x193 x194 x195 x196 x197 x198 x199 x200 x201 x202 x203 x204 x205 x206 x207 x208 x209 x210 x211 x212 x213 x214 x215 x216 x217 x218 x219 x220 x221 x222 x223 x224 x225 x226 x227 x228 x229 x230 x231 x232 x233 x234 x235 x236 x237 x238 x239 x240 x241 x242 x243 x244 x245 x246 x247 x248 x249 x250 x251 x252 x253 x254 x255 x256 x257 x258 x259 x260 x261 x262 x263 x264 x265 x266 x267 x268 x269 x270 x271 x272 x273 x274 x275 x276 x277 x278 x279 x280 x281 x282 x283 x284 x285 x286 x287 x288 x289 x290 x291 x292 x293 x294 x295 x296 x297 x298 x299 x300 x301 x302 x303 x304 x305 x306 x307 x308 x309 x310 x311 x312 x313 x314 x315 x316 x317 x318 x319 x320 x321 x322 x323 x324 x325 x326 x327 x328 x329 x330 x331 x332 x333 x334 x335 x336 x337 x338 x339 x340 x341 x342 x343 x344 x345 x346 x347 x348 x349 x350 x351 x352 x353 x354 x355 x356 x357 x358 x359 x360 x361 x362 x363 x364 x365 x366 x367 x368 x369 x370 x371 x372 x373 x374 x375 x376 x377 x378 x379 x380 x381 x382 x383 x384 x385 x386 x387 x388 x389 x390 x391 x392 x393 x394 x395 x396 x397 x398 x399 x400 x401 x402 x403 x404 x405 x406 x407 x408 x409 x410 x411 x412 x413 x414 x415 x416 x417 x418 x419 x420 x421 x422 x423 x424 x425 x426 x427 x428 x429 x430 x431 x432 x433 x434 x435 x436 x437 x438 x439 x440 x441 x442 x443 x444 x445 x446 x447 x448 x449 x450 x451 x452 x453 x454 x455 x456 x457 x458 x459 x460 x461 x462 x463 x464 x465 x466 x467 x468 x469 x470 x471 x472 x473 x474 x475 x476 x477 x478 x479 x480 x481 x482 x483 x484 x485 x486 x487 x488 x489 x490 x491 x492 x493 x494 x495 x496 x497 x498 x499 x500 x501 x502 x503 x504 x505 x506 x507 x508 x509 x510 x511 x512 x513 x514 x515 x516 x517 x518 x519 x520 x521 x522 x523 x524 x525 x526 x527 x528 x529 x530 : Value} (hg : GeoN g) (hkn : kn = g.len) (hh : h < 18446744073709551616) (hb : Pre1 z g wz w p V F ov) :
    Code.wp Yba.prog (dropSeq 15 (bodyOf Yba.f3)) (bodyPost Yba.prog Yba.f3 fun e w' => e = .returned (.bool true) ∧ Stay wz.heap.size (fun _ => False) wz w')
      { tmps := #[x0, x1, x2, x3, .slice kA kn kc, .int .u64 h, x6, x7, x8, x9, x10, x11, x12, .int .i64 g.oldN, .int .i64 g.newN, .int .i64 p.nx, .pointer (some ⟨z.Bz, 0, none⟩), x17, x18, x19, x20, x21, x22, .int .i64 (sumOv p.L g.newN : Nat), .slice (some ⟨g.Bn, 0, none⟩) g.newN g.newN, x25, x26, x27, x28, x29, x30, x31, x32, x33, x34, x35, x36, x37, x38, x39, x40, x41, x42, x43, x44, x45, x46, x47, x48, x49, x50, x51, x52, x53, x54, x55, x56, x57, x58, x59, x60, x61, x62, x63, x64, x65, x66, x67, x68, x69, x70, x71, x72, x73, x74, x75, x76, x77, x78, x79, x80, x81, x82, x83, x84, x85, x86, x87, x88, x89, x90, x91, x92, x93, x94, x95, x96, x97, x98, x99, x100, x101, x102, x103, x104, x105, x106, x107, x108, x109, x110, x111, x112, x113, x114, x115, x116, x117, x118, x119, x120, x121, x122, x123, x124, x125, x126, x127, x128, x129, x130, x131, x132, x133, x134, x135, x136, x137, x138, x139, x140, x141, x142, x143, x144, x145, x146, x147, x148, x149, x150, x151, x152, x153, x154, x155, x156, x157, x158, x159, x160, x161, x162, x163, x164, x165, x166, x167, x168, x169, x170, x171, x172, x173, x174, x175, x176, x177, x178, x179, x180, x181, x182, x183, x184, x185, x186, x187, x188, x189, x190, x191, x192, x193, x194, x195, x196, x197, x198, x199, x200, x201, x202, x203, x204, x205, x206, x207, x208, x209, x210, x211, x212, x213, x214, x215, x216, x217, x218, x219, x220, x221, x222, x223, x224, x225, x226, x227, x228, x229, x230, x231, x232, x233, x234, x235, x236, x237, x238, x239, x240, x241, x242, x243, x244, x245, x246, x247, x248, x249, x250, x251, x252, x253, x254, x255, x256, x257, x258, x259, x260, x261, x262, x263, x264, x265, x266, x267, x268, x269, x270, x271, x272, x273, x274, x275, x276, x277, x278, x279, x280, x281, x282, x283, x284, x285, x286, x287, x288, x289, x290, x291, x292, x293, x294, x295, x296, x297, x298, x299, x300, x301, x302, x303, x304, x305, x306, x307, x308, x309, x310, x311, x312, x313, x314, x315, x316, x317, x318, x319, x320, x321, x322, x323, x324, x325, x326, x327, x328, x329, x330, x331, x332, x333, x334, x335, x336, x337, x338, x339, x340, x341, x342, x343, x344, x345, x346, x347, x348, x349, x350, x351, x352, x353, x354, x355, x356, x357, x358, x359, x360, x361, x362, x363, x364, x365, x366, x367, x368, x369, x370, x371, x372, x373, x374, x375, x376, x377, x378, x379, x380, x381, x382, x383, x384, x385, x386, x387, x388, x389, x390, x391, x392, x393, x394, x395, x396, x397, x398, x399, x400, x401, x402, x403, x404, x405, x406, x407, x408, x409, x410, x411, x412, x413, x414, x415, x416, x417, x418, x419, x420, x421, x422, x423, x424, x425, x426, x427, x428, x429, x430, x431, x432, x433, x434, x435, x436, x437, x438, x439, x440, x441, x442, x443, x444, x445, x446, x447, x448, x449, x450, x451, x452, x453, x454, x455, x456, x457, x458, x459, x460, x461, x462, x463, x464, x465, x466, x467, x468, x469, x470, x471, x472, x473, x474, x475, x476, x477, x478, x479, x480, x481, x482, x483, x484, x485, x486, x487, x488, x489, x490, x491, x492, x493, x494, x495, x496, x497, x498, x499, x500, x501, x502, x503, x504, x505, x506, x507, x508, x509, x510, x511, x512, x513, x514, x515, x516, x517, x518, x519, x520, x521, x522, x523, x524, x525, x526, x527, x528, x529, x530], defers := [] } w := by
  have HK : Hid (GeoN g ∧ kn = g.len ∧ h < 18446744073709551616) := ⟨hg, hkn, hh⟩
  have HB : Hid (Pre1 z g wz w p V F ov) := hb
  have z8 : w.cell? ⟨z.Bz, 8, none⟩ = some (.int .i64 p.ovc) := hb.mz.zr.cell (by omega)
  have z8f := hb.mz.zr.frozen (k := 8)
  have hn3 := hb.n3
  have ho3 := hb.o3
  have hmk := fun w => make39 w g.oldN (by omega)
  conv => arg 2; whnf
  clear hb hg hkn hh
  go_upto_region 43 with (fail)
  -- the world ahead of the loop
  obtain ⟨w1, hw1⟩ : ∃ w1, w.setCell ⟨z.Bz, 8, none⟩ (.int .i64 (sumOv p.L g.newN : Nat)) = w1 := ⟨_, rfl⟩
  rw [hw1]
  obtain ⟨w2, hw2⟩ : ∃ w2, w1.alloc (.cells (madeCells z25 (g.oldN * 25)) 39) = w2 := ⟨_, rfl⟩
  rw [hw2]
  have hz1 : w1.heap.size = w.heap.size := by rw [← hw1]; simp [World.setCell]
  have hz2 : w2.heap.size = w.heap.size + 1 := by rw [← hw2]; simp [hz1]
  have S2 : Stay w1.heap.size (fun _ => False) w1 w2 := by rw [← hw2]; exact (Stay.refl _ _ w1).alloc (Nat.le_refl _) _
  have b := HB.out
  have mz1 : MZ z g w1 { p with ovc := sumOv p.L g.newN } V := by
    rw [← hw1]
    exact ⟨(b.mz.zr.set _).congr (fun k hk => zF_ov _ _ _ _ _ _ _ _ (sumOv p.L g.newN) k hk), b.mz.mr.other _ (b.mz.mr.ne b.mz.zr (by decide)), b.mz.nr.other _ (b.mz.nr.ne b.mz.zr (by decide)), b.mz.orr.other _ (b.mz.orr.ne b.mz.zr (by decide)), b.mz.ls.set b.mz.zr (by decide) _, b.mz.ne, by simp only [World.setCell, Array.size_modify]; exact b.mz.bs⟩
  have f1 : Fam w1 g.Bn g.newN F ov p.L := by rw [← hw1]; exact b.fam.set _ (row_not_mine b.fam b.mz.zr (by decide))
  have st1 : Stay wz.heap.size (fun _ => False) wz w1 := by rw [← hw1]; exact b.st.set _ (.inl b.lz.1)
  have old2 : Row w2 w.heap.size (g.oldN * 25) 39 (fun k => z25.getD (k % 25) undef) := by
    rw [← hw2, ← hz1]
    exact made_row w1 z25 (g.oldN * 25) 39 (by decide)
  have H2 : Hid (MZ z g w2 { p with ovc := sumOv p.L g.newN } V ∧ Fam w2 g.Bn g.newN F ov p.L ∧ Stay wz.heap.size (fun _ => False) wz w2 ∧ w2.heap.size = w.heap.size + 1 ∧ ∀ b, Mine g.Bn g.newN ov p.L b → b < w.heap.size) :=
    ⟨mz1.stay S2, f1.on fun b hb => S2.block b (f1.lt hb) id, st1.next S2, hz2, fun b hb => by have := f1.lt hb; omega⟩
  have H0 : Hid (OldTo w2 w2 w.heap.size g.oldN p.mv p.O 0 (fun k => z25.getD (k % 25) undef) (fun _ _ => 0)) := by
    refine ⟨old2, fun j hj => by omega, fun j hj => by omega, fun j _ hjo k hk => ?_, fun j hj => by omega, Stay.refl _ _ w2⟩
    rw [show (j * 25 + k) % 25 = k by omega]
    have := z25_at hk
    rw [Array.getElem?_toList] at this
    rw [Array.getD_eq_getD_getElem?, this]; rfl
  generalize hBo : w.heap.size = Bo at H2 H0 ⊢
  have HBo : Hid (w.heap.size = Bo) := hBo
  clear hw1 hw2 hz1 hz2 S2 b mz1 f1 st1 old2 z8 z8f hBo hmk
  go_wp2_with fail
  go_loopw [224] (fun v wr => ∃ i : Nat, i ≤ g.oldN ∧ v = .int .i64 i ∧ ∃ Fo ovo, OldTo w2 wr Bo g.oldN p.mv p.O i Fo ovo) (fun v _ => g.oldN - (intOf v).toNat)
  case atStart => exact ⟨0, Nat.zero_le _, rfl, _, _, H0.out⟩
  case round =>
    obtain ⟨i, hi, rfl, Fo, ovo, hO⟩ := hrel
    have HO : Hid (OldTo w2 wr Bo g.oldN p.mv p.O i Fo ovo) := hO
    have hmz : MZ z g wr { p with ovc := sumOv p.L g.newN } V := H2.out.1.key (fun b N t F hr ht => hO.st.block b hr.lt (fun e => by
      have h8 : Row w2 Bo _ 39 _ := H0.out.old
      exact hr.ne h8 ht e)) hO.st.size
    have HZ : Hid (MZ z g wr { p with ovc := sumOv p.L g.newN } V) := hmz
    by_cases hlt : i < g.oldN
    · have z2 : wr.cell? ⟨z.Bz, 2, none⟩ = some (.slice (some ⟨z.Bv, 0, none⟩) g.oldN g.oldN) := hmz.zr.cell (by omega)
      have zv : wr.cell? ⟨z.Bv, i, none⟩ = some (.bool (p.mv i)) := hmz.mr.cell hlt
      cases hmv : p.mv i with
      | true =>
        rw [hmv] at zv
        have oc : wr.cell? ⟨Bo, i * 25, none⟩ = some (Fo (i * 25)) := hO.old.cell (by omega)
        have of : wr.frozen? ⟨Bo, i * 25, none⟩ = false := hO.old.frozen
        have HM : Hid _ := hO.mark hlt hmv
        clear hO hmz hmv
        go_wp2_with fail
        exact ⟨⟨i + 1, by omega, by go_num, _, _, HM.out⟩, by simp [intOf]; omega⟩
      | false =>
        rw [hmv] at zv
        obtain ⟨sA, Bl, cL, hv, hLv, _⟩ := hmz.ls.lv (j := g.newN + i) (by omega)
        rw [LL_old] at hv hLv
        have z3 : wr.cell? ⟨z.Bz, 3, none⟩ = some (.slice (some ⟨z.Bol, 0, none⟩) g.oldN g.oldN) := hmz.zr.cell (by omega)
        have l3 : wr.cell? ⟨z.Bol, i, none⟩ = some (.slice sA (p.O i).length cL) := by rw [hmz.orr.cell hlt, hv]
        have HCH : Hid _ := chain_any (p.O i) (HB.out.pk.ook i) (by have := HB.out.pk.o1 i; omega) sA Bl cL wr hLv
        have HMV : Hid (p.mv i = false) := hmv
        have HTH : Hid (∀ w5 : World, Stay wr.heap.size (fun _ => False) wr w5 → w5.there Bo (i * 25) 25) := fun w5 h5 j hj => by
          have hr := HO.out.old.stay h5 HO.out.old.lt id
          exact ⟨by rw [hr.cell (by omega)]; rfl, hr.frozen⟩
        clear hO hmz hmv hv hLv
        go_wp2_with (first
          | (go_at_call 5; refine Calls.mono HCH.out ?_; rintro e w5 ⟨oj, rfl, hrows, hinj, hst5⟩; have HR5 : Hid ((∀ t, 1 ≤ t → t < nbk (p.O i).length → Row w5 (oj t) 25 39 (bcell (p.O i) (nxt oj (p.O i).length t) t) ∧ wr.heap.size ≤ oj t) ∧ (∀ t u, 1 ≤ t → t < nbk (p.O i).length → 1 ≤ u → u < nbk (p.O i).length → oj t = oj u → t = u) ∧ Stay wr.heap.size (fun _ => False) wr w5) := ⟨hrows, hinj, hst5⟩; clear hrows hinj hst5)
          | (refine wpList_store_mid rfl 39 _ _ rfl Bo (i * 25) (rowA 25 (bcell (p.O i) (nxt oj (p.O i).length 0) 0)) rfl rfl (by rw [rowA_size]; exact HTH.out _ HR5.out.2.2) (by rw [rowA_size]; kernel_rfl) (one25 _ _) ?_))
        exact ⟨⟨i + 1, by omega, by go_num, _, _, HO.out.store hlt HMV.out HR5.out.2.2 HR5.out.1 HR5.out.2.1⟩, by simp [intOf]; omega⟩
    · have ei : i = g.oldN := by omega
      clear hmz
      go_upto_if 225 with (fail)
      go_step
      go_step
      go_step
      go_step
      go_step
      go_step
      have b := HB.out
      obtain ⟨h1, h2, h3, h4, h5⟩ := H2.out
      have o := HO.out
      rw [ei] at o
      have hz := o.st.size
      have hgo := HK.out.1 (wr.heap.size + 1) wr.heap.size Bo (by omega) (by omega) (by omega)
      refine t2 (g := { g with Bm := wr.heap.size + 1, Bc := wr.heap.size, Bo := Bo }) (p := { p with ovc := sumOv p.L g.newN }) (F := F) (ov := ov) (Fo := Fo) (ovo := ovo) (V := V) hgo rfl rfl HK.out.2.1 HK.out.2.2 ?_
      have hm := HZ.out
      refine ⟨h2.on fun c hc => o.st.block c (h2.lt hc) (fun e => by have := h5 c hc; omega), o.old, fun j hj hm => o.ch j hj hm, fun j hj hm => o.mvd j hj hm, fun hc => by have := h5 _ hc; exact absurd this (Nat.lt_irrefl _), fun j t hj hm ht1 ht2 hc => ?_, ⟨hm.zr, hm.mr, hm.nr, hm.orr, hm.ls, hm.ne, hm.bs⟩, ?_, ?_, b.nx, b.mg, b.cl, b.bs, b.lz, fun c hc => ?_⟩
      · have h8 := h5 _ hc
        have h9 := o.fr j hj hm t ht1 ht2
        omega
      · have q := b.pk
        have hs9 := sumOv_le (L := p.L) (fun j => Nat.le_trans (q.l1 j) (by omega)) g.newN
        exact ⟨fun j => Nat.le_trans (q.l1 j) (by omega), q.o1, by show sumOv p.L g.newN ≤ 262144; omega, Nat.le_trans q.c1 (by omega), q.g1, q.nxl, q.nxs, q.lok, q.ook⟩
      · have h8 := h3.size
        have h9 := b.st.size
        exact ⟨o.st.os.trans h3.os, o.st.tape.trans h3.tape, o.st.output.trans h3.output, Nat.le_trans h8 hz, fun c hc hs => (o.st.block c (by omega) (fun e => by have := HBo.out; omega)).trans (h3.block c hc hs)⟩
      · rcases hc with hc | hc
        · exact b.lt c hc
        · have := HBo.out; have := b.st.size; have hc' : c = Bo := hc; omega
end Go.Proofs.Ybulkeaqa
