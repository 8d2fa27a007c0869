/- S6357B: the law, the new table. -/
import Derived.Test.YbulkeaqaBT1b
namespace Go.Proofs.Ybulkeaqa
open Go.RowKit Go.Shelf
set_option linter.unusedSimpArgs false
attribute [local go_sem] Oper.semAt_some eql33

/-- The model, its lists filled. -/
structure Pre0 (z : ZG) (g : Geo) (wz w : World) (p : Pl) (V : Nat → Value) : Prop where
  mz : MZ z g w p V
  pk : p.Ok g 65536
  st : Stay wz.heap.size (fun _ => False) wz w
  nx : p.nx < g.oldN
  mg : p.mig = 7
  cl : p.cl = 0
  bs : z.base = wz.heap.size
  lz : wz.heap.size ≤ z.Bz ∧ wz.heap.size ≤ z.Bv ∧ wz.heap.size ≤ z.Bol ∧ wz.heap.size ≤ z.Bnl
  n3 : g.newN ≤ 32
  o3 : g.oldN ≤ 16
/-- The new table behind j rounds of its making, begun in w2. -/
structure NewTo (w2 wr : World) (Bn newN : Nat) (L : Nat → List Ent) (j : Nat) (F : Nat → Value) (ov : Nat → Nat → Nat) : Prop where
  fam : Fam wr Bn newN F ov (upTo L j)
  fr : ∀ i t, i < newN → live (upTo L j) i t → w2.heap.size ≤ ov i t
  st : Stay w2.heap.size (fun b => b = Bn) w2 wr
theorem NewTo.store {w2 wr w5 : World} {Bn newN : Nat} {L : Nat → List Ent} {j : Nat} {F : Nat → Value} {ov : Nat → Nat → Nat} {oj : Nat → Nat} (h : NewTo w2 wr Bn newN L j F ov) (hj : j < newN) (he : ∀ e ∈ L j, e.Ok) (hs : Stay wr.heap.size (fun _ => False) wr w5)
    (hr : ∀ t, 1 ≤ t → t < nbk (L j).length → Row w5 (oj t) 25 39 (bcell (L j) (nxt oj (L j).length t) t) ∧ wr.heap.size ≤ oj t) (hin : ∀ t u, 1 ≤ t → t < nbk (L j).length → 1 ≤ u → u < nbk (L j).length → oj t = oj u → t = u) :
    NewTo w2 (w5.setCells Bn (j * 25) (rowA 25 (bcell (L j) (nxt oj (L j).length 0) 0)).toList) Bn newN L (j + 1) (updL F (j * 25) (rowA 25 (bcell (L j) (nxt oj (L j).length 0) 0)).toList) (setO ov j oj) := by
  have hz := h.st.size
  have hf := h.fam.store hj hs he hr hin
  rw [upTo_succ] at hf
  refine ⟨hf, fun i t hi hl => ?_, ?_⟩
  · rw [← upTo_succ] at hl
    unfold live at hl
    by_cases e : i = j
    · subst e
      rw [setL_same] at hl
      rw [setO_same]
      have := (hr t hl.1 hl.2).2
      omega
    · rw [setL_ne _ _ e] at hl
      rw [setO_ne _ _ e]
      exact h.fr i t hi hl
  · have h5 : Stay w2.heap.size (fun b => b = Bn) w2 w5 := ⟨hs.os.trans h.st.os, hs.tape.trans h.st.tape, hs.output.trans h.st.output, Nat.le_trans hz hs.size, fun b hb hx => (hs.block b (by omega) id).trans (h.st.block b hb hx)⟩
    exact Stay.setCells (S := fun b => b = Bn) (.inr rfl) _ _ _ h5

set_option maxHeartbeats 4000000 in
set_option maxRecDepth 100000 in
theorem t1a {z : ZG} {g : Geo} {wz w : World} {p : Pl} {V : Nat → Value} {kA : Option Addr} {kn kc h : Nat} {x0 x1 x2 x3 x6 x7 x8 x9 x10 x11 x12 x17 x18 x19 x20 x21 x22 x23 x24 x25 x26 x27 x28 x29 x30 x31 x32 x33 x34 x35 x36 x37 x38 x39 x40 x41 x42 x43 x44 x45 x46 x47 x48 x49 x50 x51 x52 x53 x54 x55 x56 x57 x58 x59 x60 x61 x62 x63 x64 x65 x66 x67 x68 x69 x70 x71 x72 x73 x74 x75 x76 x77 x78 x79 x80 x81 x82 x83 x84 x85 x86 x87 x88 x89 x90 x91 x92 x93 x94 x95 x96 x97 x98 x99 x100 x101 x102 x103 x104 x105 x106 x107 x108 x109 x110 x111 x112 x113 x114 x115 x116 x117 x118 x119 x120 x121 x122 x123 x124 x125 x126 x127 x128 x129 x130 x131 x132 x133 x134 x135 x136 x137 x138 x139 x140 x141 x142 x143 x144 x145 x146 x147 x148 x149 x150 x151 x152 x153 x154 x155 x156 x157 x158 x159 x160 x161 x162 x163 x164 x165 x166 x167 x168 x169 x170 x171 x172 x173 x174 x175 x176 x177 x178 x179 x180 x181 x182 x183 x184 x185 x186 x187 x188 x189 x190 x191 x192 x193 x194 x195 x196 x197 x198 x199 x200 x201 x202 x203 x204 x205 x206 x207 x208 x209 x210 x211 x212 x213 x214 x215 x216 x217 x218 x219 x220 x221 x222 x223 x224 x225 x226 x227 x228 x229 x230 x231 x232 x233 x234 x235 x236 x237 x238 x239 x240 x241 x242 x243 x244 x245 x246 x247 x248 x249 x250 x251 x252 x253 x254 x255 x256 x257 x258 x259 x260 x261 x262 x263 x264 x265 x266 x267 x268 x269 x270 x271 x272 x273 x274 x275 x276 x277 x278 x279 x280 x281 x282 x283 x284 x285 x286 x287 x288 x289 x290 x291 x292 x293 x294 x295 x296 x297 x298 x299 x300 x301 x302 x303 x304 x305 x306 x307 x308 x309 x310 x311 x312 x313 x314 x315 x316 x317 x318 x319 x320 x321 x322 x323 x324 x325 x326 x327 x328 x329 x330 x331 x332 x333 x334 x335 x336 x337 x338 x339 x340 x341 x342 x343 x344 x345 x346 x347 x348 x349 x350 x351 x352 x353 x354 x355 x356 x357 x358 x359 x360 x361 x362 x363 x364 x365 x366 x367 x368 x369 x370 x371 x372 x373 x374 x375 x376 x377 x378 x379 x380 x381 x382 x383 x384 x385 x386 x387 x388 x389 x390 x391 x392 x393 x394 x395 x396 x397 x398 x399 x400 x401 x402 x403 x404 x405 x406 x407 x408 x409 x410 x411 x412 x413 x414 x415 x416 x417 x418 x419 x420 x421 x422 x423 x424 x425 x426 x427 x428 x429 x430 x431 x432 x433 x434 x435 x436 x437 x438 x439 x440 x441 x442 x443 x444 x445 x446 x447 x448 x449 x450 x451 x452 x453 x454 x455 x456 x457 x458 x459 x460 x461 x462 x463 x464 x465 x466 x467 x468 x469 x470 x471 x472 x473 x474 x475 x476 x477 x478 x479 x480 x481 x482 x483 x484 x485 x486 x487 x488 x489 x490 x491 x492 x493 x494 x495 x496 x497 x498 x499 x500 x501 x502 x503 x504 x505 x506 x507 x508 x509 x510 x511 x512 x513 x514 x515 x516 x517 x518 x519 x520 x521 x522 x523 x524 x525 x526 x527 x528 x529 x530 : Value} (hg : GeoN g) (hkn : kn = g.len) (hh : h < 18446744073709551616) (hb : Pre0 z g wz w p V) :
    Code.wp Yba.prog (dropSeq 12 (bodyOf Yba.f3)) (bodyPost Yba.prog Yba.f3 fun e w' => e = .returned (.bool true) ∧ Stay wz.heap.size (fun _ => False) wz w')
      { tmps := #[x0, x1, x2, x3, .slice kA kn kc, .int .u64 h, x6, x7, x8, x9, x10, x11, x12, .int .i64 g.oldN, .int .i64 g.newN, .int .i64 p.nx, .pointer (some ⟨z.Bz, 0, none⟩), x17, x18, x19, x20, x21, x22, x23, x24, x25, x26, x27, x28, x29, x30, x31, x32, x33, x34, x35, x36, x37, x38, x39, x40, x41, x42, x43, x44, x45, x46, x47, x48, x49, x50, x51, x52, x53, x54, x55, x56, x57, x58, x59, x60, x61, x62, x63, x64, x65, x66, x67, x68, x69, x70, x71, x72, x73, x74, x75, x76, x77, x78, x79, x80, x81, x82, x83, x84, x85, x86, x87, x88, x89, x90, x91, x92, x93, x94, x95, x96, x97, x98, x99, x100, x101, x102, x103, x104, x105, x106, x107, x108, x109, x110, x111, x112, x113, x114, x115, x116, x117, x118, x119, x120, x121, x122, x123, x124, x125, x126, x127, x128, x129, x130, x131, x132, x133, x134, x135, x136, x137, x138, x139, x140, x141, x142, x143, x144, x145, x146, x147, x148, x149, x150, x151, x152, x153, x154, x155, x156, x157, x158, x159, x160, x161, x162, x163, x164, x165, x166, x167, x168, x169, x170, x171, x172, x173, x174, x175, x176, x177, x178, x179, x180, x181, x182, x183, x184, x185, x186, x187, x188, x189, x190, x191, x192, x193, x194, x195, x196, x197, x198, x199, x200, x201, x202, x203, x204, x205, x206, x207, x208, x209, x210, x211, x212, x213, x214, x215, x216, x217, x218, x219, x220, x221, x222, x223, x224, x225, x226, x227, x228, x229, x230, x231, x232, x233, x234, x235, x236, x237, x238, x239, x240, x241, x242, x243, x244, x245, x246, x247, x248, x249, x250, x251, x252, x253, x254, x255, x256, x257, x258, x259, x260, x261, x262, x263, x264, x265, x266, x267, x268, x269, x270, x271, x272, x273, x274, x275, x276, x277, x278, x279, x280, x281, x282, x283, x284, x285, x286, x287, x288, x289, x290, x291, x292, x293, x294, x295, x296, x297, x298, x299, x300, x301, x302, x303, x304, x305, x306, x307, x308, x309, x310, x311, x312, x313, x314, x315, x316, x317, x318, x319, x320, x321, x322, x323, x324, x325, x326, x327, x328, x329, x330, x331, x332, x333, x334, x335, x336, x337, x338, x339, x340, x341, x342, x343, x344, x345, x346, x347, x348, x349, x350, x351, x352, x353, x354, x355, x356, x357, x358, x359, x360, x361, x362, x363, x364, x365, x366, x367, x368, x369, x370, x371, x372, x373, x374, x375, x376, x377, x378, x379, x380, x381, x382, x383, x384, x385, x386, x387, x388, x389, x390, x391, x392, x393, x394, x395, x396, x397, x398, x399, x400, x401, x402, x403, x404, x405, x406, x407, x408, x409, x410, x411, x412, x413, x414, x415, x416, x417, x418, x419, x420, x421, x422, x423, x424, x425, x426, x427, x428, x429, x430, x431, x432, x433, x434, x435, x436, x437, x438, x439, x440, x441, x442, x443, x444, x445, x446, x447, x448, x449, x450, x451, x452, x453, x454, x455, x456, x457, x458, x459, x460, x461, x462, x463, x464, x465, x466, x467, x468, x469, x470, x471, x472, x473, x474, x475, x476, x477, x478, x479, x480, x481, x482, x483, x484, x485, x486, x487, x488, x489, x490, x491, x492, x493, x494, x495, x496, x497, x498, x499, x500, x501, x502, x503, x504, x505, x506, x507, x508, x509, x510, x511, x512, x513, x514, x515, x516, x517, x518, x519, x520, x521, x522, x523, x524, x525, x526, x527, x528, x529, x530], defers := [] } w := by
  have HK : Hid (GeoN g ∧ kn = g.len ∧ h < 18446744073709551616) := ⟨hg, hkn, hh⟩
  have HB : Hid (Pre0 z g wz w p V) := hb
  have hn3 := hb.n3
  have ho3 := hb.o3
  have hmk := fun w => make39 w g.newN (by omega)
  conv => arg 2; whnf
  clear hb hg hkn hh
  go_upto_region 33 with (fail)
  obtain ⟨w2, hw2⟩ : ∃ w2, w.alloc (.cells (madeCells z25 (g.newN * 25)) 39) = w2 := ⟨_, rfl⟩
  rw [hw2]
  have hz2 : w2.heap.size = w.heap.size + 1 := by rw [← hw2]; simp
  have S2 : Stay w.heap.size (fun _ => False) w w2 := by rw [← hw2]; exact (Stay.refl _ _ w).alloc (Nat.le_refl _) _
  have b := HB.out
  have new2 : Row w2 w.heap.size (g.newN * 25) 39 (fun k => z25.getD (k % 25) undef) := by
    rw [← hw2]
    exact made_row w z25 (g.newN * 25) 39 (by decide)
  have H2 : Hid (MZ z g w2 p V ∧ Stay wz.heap.size (fun _ => False) wz w2 ∧ w2.heap.size = w.heap.size + 1) := ⟨b.mz.stay S2, b.st.next S2, hz2⟩
  have H0 : Hid (NewTo w2 w2 w.heap.size g.newN p.L 0 (fun k => z25.getD (k % 25) undef) (fun _ _ => 0)) := by
    have e0 : upTo p.L 0 = fun _ => [] := by funext i; simp [upTo]
    refine ⟨by rw [e0]; exact Fam.zero new2 (fun _ _ => rfl), fun i t _ hl => ?_, Stay.refl _ _ w2⟩
    rw [e0] at hl
    have h1 := hl.1
    have h2 := hl.2
    simp [nbk] at h2
    omega
  have HRW : Hid (∃ N G, Row w2 w.heap.size N 39 G) := ⟨_, _, new2⟩
  generalize hBn : w.heap.size = Bn at H2 H0 HRW ⊢
  have HBn : Hid (w.heap.size = Bn) := hBn
  clear hw2 hz2 S2 b new2 hBn hmk
  go_wp2_with fail
  go_loopw [23, 187] (fun vo v wr => ∃ j : Nat, j ≤ g.newN ∧ v = .int .i64 j ∧ vo = .int .i64 (sumOv p.L j : Nat) ∧ ∃ F ov, NewTo w2 wr Bn g.newN p.L j F ov) (fun _ v _ => g.newN - (intOf v).toNat)
  case atStart => exact ⟨0, Nat.zero_le _, rfl, rfl, _, _, H0.out⟩
  case round =>
    obtain ⟨j, hj, rfl, rfl, F, ov, hO⟩ := hrel
    have HO : Hid (NewTo w2 wr Bn g.newN p.L j F ov) := hO
    have HZ : Hid (∀ w9 : World, Stay w2.heap.size (fun b => b = Bn) w2 w9 → MZ z g w9 p V) := fun w9 h9 => H2.out.1.key (fun b N t F hr ht => h9.block b hr.lt (fun e => by
      obtain ⟨N8, G8, h8⟩ := HRW.out
      exact hr.ne h8 ht e)) h9.size
    have hmz := HZ.out wr hO.st
    by_cases hlt : j < g.newN
    · obtain ⟨sA, Bl, cL, hv, hLv, _⟩ := hmz.ls.lv (j := j) (by omega)
      rw [LL_new hlt] at hv hLv
      have z4 : wr.cell? ⟨z.Bz, 4, none⟩ = some (.slice (some ⟨z.Bnl, 0, none⟩) g.newN g.newN) := hmz.zr.cell (by omega)
      have l4 : wr.cell? ⟨z.Bnl, j, none⟩ = some (.slice sA (p.L j).length cL) := by rw [hmz.nr.cell hlt, hv]
      have HVJ : Hid (V j = .slice sA (p.L j).length cL) := hv
      have HCH : Hid _ := chain_any (p.L j) (HB.out.pk.lok j) (by have := HB.out.pk.l1 j; omega) sA Bl cL wr hLv
      have HTH : Hid (∀ w5 : World, Stay wr.heap.size (fun _ => False) wr w5 → w5.there Bn (j * 25) 25) := fun w5 h5 k hk => by
        have hr := HO.out.fam.row.stay h5 HO.out.fam.row.lt id
        exact ⟨by rw [hr.cell (by omega)]; rfl, hr.frozen⟩
      have hlen : (p.L j).length ≤ 65536 := HB.out.pk.l1 j
      have hso : sumOv p.L j ≤ 300000 := by have := sumOv_le (L := p.L) HB.out.pk.l1 j; omega
      clear hO hmz hv hLv
      go_upto_region 37 with (first
          | (go_at_call 5; refine Calls.mono HCH.out ?_; rintro e w5 ⟨oj, rfl, hrows, hinj, hst5⟩; have HR5 : Hid ((∀ t, 1 ≤ t → t < nbk (p.L j).length → Row w5 (oj t) 25 39 (bcell (p.L j) (nxt oj (p.L j).length t) t) ∧ wr.heap.size ≤ oj t) ∧ (∀ t u, 1 ≤ t → t < nbk (p.L j).length → 1 ≤ u → u < nbk (p.L j).length → oj t = oj u → t = u) ∧ Stay wr.heap.size (fun _ => False) wr w5) := ⟨hrows, hinj, hst5⟩; clear hrows hinj hst5)
          | (refine wpList_store_mid rfl 39 _ _ rfl Bn (j * 25) (rowA 25 (bcell (p.L j) (nxt oj (p.L j).length 0) 0)) rfl rfl (by rw [rowA_size]; exact HTH.out _ HR5.out.2.2) (by rw [rowA_size]; kernel_rfl) (one25 _ _) ?_))
      have n6 := HO.out.store hlt (HB.out.pk.lok j) HR5.out.2.2 HR5.out.1 HR5.out.2.1
      generalize w5.setCells Bn (j * 25) (rowA 25 (bcell (p.L j) (nxt oj (p.L j).length 0) 0)).toList = w6 at n6 ⊢
      have hm6 := HZ.out w6 n6.st
      have y4 : w6.cell? ⟨z.Bz, 4, none⟩ = some (.slice (some ⟨z.Bnl, 0, none⟩) g.newN g.newN) := hm6.zr.cell (by omega)
      have y5 : w6.cell? ⟨z.Bnl, j, none⟩ = some (.slice sA (p.L j).length cL) := by rw [hm6.nr.cell hlt, HVJ.out]
      have HN6 : Hid _ := n6
      have HSO : Hid (sumOv p.L (j + 1) = sumOv p.L j + (if 0 < (p.L j).length then ((p.L j).length - 1) / 8 else 0)) := rfl
      generalize (p.L j).length = nl at y5 hlen HSO ⊢
      generalize sumOv p.L j = so at hso HSO ⊢
      clear n6 hm6 z4 l4
      by_cases hn0 : 0 < nl
      · have hb : decide ((0 : Int) < (nl : Int)) = true := decide_eq_true (by omega)
        go_wp2_with fail
        refine ⟨⟨j + 1, by omega, by go_num, ?_, _, _, HN6.out⟩, by simp [intOf]; omega⟩
        rw [HSO.out, if_pos hn0, show ((so : Int) + ((nl : Int) - 1) / 8) = ((so + (nl - 1) / 8 : Nat) : Int) by omega]
      · have hb : decide ((0 : Int) < (nl : Int)) = false := decide_eq_false (by omega)
        have hb2 : decide (0 < nl) = false := decide_eq_false (by omega)
        go_wp2_with fail
        refine ⟨⟨j + 1, by omega, by go_num, ?_, _, _, HN6.out⟩, by simp [intOf]; omega⟩
        rw [HSO.out, if_neg hn0]
        rfl
    · have ei : j = g.newN := by omega
      clear hmz
      go_upto_if 188 with (fail)
      go_step
      go_step
      go_step
      go_step
      go_step
      go_step
      have b := HB.out
      have o := HO.out
      rw [ei] at o ⊢
      have hz := o.st.size
      have hm := HZ.out wr o.st
      obtain ⟨h1, h2, h3⟩ := H2.out
      refine t1b (g := { g with Bn := Bn }) (p := p) (V := V) (F := F) (ov := ov) (fun bm bc bo e1 e2 e3 => ?_) HK.out.2.1 HK.out.2.2 ?_
      · have q := HK.out.1 bm bc bo e1 e2 e3
        exact ⟨q.n1, q.n2, q.n3, q.n4, q.o1, q.o2, q.o3, q.o4, q.hsp, q.hsp2, q.spb, q.dest, q.d1, q.d2, q.d3⟩
      · refine ⟨upTo_all o.fam, ⟨hm.zr, hm.mr, hm.nr, hm.orr, hm.ls, hm.ne, hm.bs⟩, ⟨b.pk.l1, b.pk.o1, b.pk.v1, b.pk.c1, b.pk.g1, b.pk.nxl, b.pk.nxs, b.pk.lok, b.pk.ook⟩, ?_, b.nx, b.mg, b.cl, b.bs, b.lz, fun c hc => ?_, b.n3, b.o3⟩
        · have h8 := h2.size
          have h9 := b.st.size
          exact ⟨o.st.os.trans h2.os, o.st.tape.trans h2.tape, o.st.output.trans h2.output, Nat.le_trans h8 hz, fun c hc hs => (o.st.block c (by omega) (fun e => by have := HBn.out; omega)).trans (h2.block c hc hs)⟩
        · have h8 := HBn.out
          have h9 := b.st.size
          rcases hc with hc | ⟨i, t, hi, hl, hc⟩
          · have hc' : c = Bn := hc
            omega
          · have hl2 : live (upTo p.L g.newN) i t := by unfold live upTo; rw [if_pos hi]; exact hl
            have := o.fr i t hi hl2
            omega
end Go.Proofs.Ybulkeaqa
