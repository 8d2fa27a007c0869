/- S6350A: the law, what is wanted of next. -/
import Derived.Test.YbulkeamgT3
namespace Go.Proofs.Ybulkeamg
open Go.RowKit
set_option linter.unusedSimpArgs false

theorem inf35 : (Yba.prog.info? 35).map (fun i => (i.zero, i.size, i.bytes)) = some (some (.int .u64 0), 1, 8) := by kernel_rfl

/-- A row as a list. -/
def listOf (F : Nat → Value) (n : Nat) : List Value := (List.range n).map F
theorem listOf_len (F : Nat → Value) (n : Nat) : (listOf F n).length = n := by simp [listOf]
theorem listOf_get (F : Nat → Value) (n j : Nat) (h : j < n) : (listOf F n)[j]? = some (F j) := by simp [listOf, h]
theorem Row.own {w : World} {b n base : Nat} {t : TypeId} {F : Nat → Value} (h : Row w b (n * 1) t F) (hb : base ≤ b) (hn : n ≤ maxLen) : w.ownsRow base t 1 (.slice (some ⟨b, 0, none⟩) n n) n (listOf F n) := by
  refine ⟨by rw [listOf_len]; omega, .inr ⟨b, n, rowA (n * 1) F, rfl, hb, h, Nat.le_refl _, hn, rowA_size _ _, ?_⟩⟩
  rw [Nat.mul_one]
  apply List.ext_getElem?
  intro j
  by_cases hj : j < n
  · rw [List.getElem?_take_of_lt hj, listOf_get _ _ _ hj, Array.getElem?_toList, rowA_get _ hj]
  · rw [List.getElem?_eq_none (by simp [rowA_size]; omega), List.getElem?_eq_none (by rw [listOf_len]; omega)]

theorem own_form1 {w : World} {base : Nat} {e : TypeId} {s : Nat} {v : Value} {n : Nat} {xs : List Value} (h : w.ownsRow base e s v n xs) (hn : 0 < n) : ∃ g c, v = .slice (some ⟨g, 0, none⟩) n c := by
  obtain ⟨_, ⟨rfl, rfl⟩ | ⟨g, cap, cur, rfl, _⟩⟩ := h
  · omega
  · exact ⟨g, cap, rfl⟩

/-- What next ought to be. -/
def Want (S : Nat → Bool) (n p lo W b len : Nat) (G : Nat → Nat) : Prop :=
  (bsum S n = n ∧ b = 1 ∧ len = W ∧ ∀ d, d < len → G d = wordOf (fun v => v == p) (lo + d)) ∨ (bsum S n ≠ n ∧ b = 0 ∧ len = W + W ∧ ∀ d, d < len → G d = if d < W then wordOf S (lo + d) else wordOf (fun v => v == p) (lo + (d - W)))

set_option maxHeartbeats 4000000 in
set_option maxRecDepth 100000 in
theorem tail2b {n p : Nat} {T : List Nat} {wz w : World} {Bb : Nat} {B Bw cw : Nat → Nat} {aT aW : Option Addr} {cT Bt lo W Bx c b len : Nat} {G : Nat → Nat} {Bs cs Bv cW : Nat} {B0 B1 : Nat} {S : Nat → Bool} {x0 x1 x2 x3 x4 x5 x6 x7 x8 x11 x12 x13 x14 x16 x18 x20 x21 x22 x24 x27 x31 x32 x33 x34 x35 x36 x37 x38 x39 x40 x41 x42 x43 x44 x45 x46 x47 x48 x49 x50 x51 x52 x53 x54 x55 x56 x57 x58 x59 x60 x61 x62 x63 x64 x65 x66 x67 x68 x69 x70 x71 x72 x73 x74 x75 x76 x77 x78 x79 x80 x81 x82 x83 x84 x85 x86 x87 x88 x89 x90 x91 x92 x93 x94 x95 x96 x97 x98 x99 x100 x101 x102 x103 x104 x105 x106 x107 x108 x109 x110 x111 x112 x113 x114 x115 x116 x117 x118 x119 x120 x121 x122 x123 x124 x125 x126 x127 x128 x129 x130 x131 x132 x133 x134 x135 x136 x137 x138 x139 x140 x141 x142 x143 x144 x145 x146 x147 x148 x149 x150 x151 x152 x153 x154 x155 x156 x157 x158 x159 x160 x161 x162 x163 x164 x165 x166 x167 x168 x169 x170 x171 x172 x173 x174 x175 x176 x177 x178 x179 x180 x181 x182 x183 x184 x185 x186 x187 x188 x189 x190 x191 x192 x193 x194 x195 x196 x197 x198 x199 x200 x201 x202 x203 x204 x205 x206 x207 x208 x209 x210 x211 x212 x213 x214 x215 x216 x217 x218 x219 x220 x221 x222 x223 x224 x225 x226 x227 x228 x229 x230 x231 x232 x233 x234 x235 x236 x237 x238 x239 x240 x241 x242 x243 x244 x245 x246 x247 x248 x249 x250 x251 x252 x253 x254 x255 x256 x257 x258 x259 x260 x261 x262 x263 x264 x265 x266 x267 x268 x269 x270 x271 x272 x273 x274 x275 x276 x277 x278 x279 x280 x281 x282 x283 x284 x285 x286 x287 x288 x289 x290 x291 x292 x293 x294 x295 x296 x297 x298 x299 x300 x301 x302 x303 x304 x305 x306 x307 x308 x309 x310 x311 x312 x313 x314 x315 x316 x317 x318 x319 x320 x321 x322 x323 x324 x325 x326 x327 x328 x329 x330 x331 x332 x333 x334 x335 x336 x337 x338 x339 x340 x341 x342 x343 x344 x345 x346 x347 x348 x349 x350 x351 x352 x353 x354 x355 x356 x357 x358 x359 x360 x361 x362 x363 x364 x365 x366 x367 x368 x369 x370 x371 x372 x373 x374 x375 x376 x377 x378 x379 x380 x381 x382 x383 x384 x385 x386 x387 x388 x389 x390 x391 x392 x393 x394 x395 x396 x397 x398 : Value}
    (hn : n ≤ 200) (hp : p < n) (hT : T.length ≤ 65536) (hF : Fin n p T wz Bb B Bw cw aT cT Bt lo W Bx c b len G Bs cs) (hS : Stay wz.heap.size (fun _ => False) wz w) (hV : Tk w aW Bv p T) (hlen : len ≤ 65536) (hW4 : W ≤ 100) (hW0 : 0 < W) (hW : Want S n p lo W b len G) (hb0 : wz.heap.size ≤ B0) (hbv : 0 < T.length → Bv ≠ B0) (R0 : Row w B0 (W * 1) 35 (fun d => .int .u64 (wordOf S (lo + d)))) (R1 : Row w B1 (W * 1) 35 (fun d => .int .u64 (wordOf (fun v => v == p) (lo + d)))) :
    Code.wp Yba.prog (dropSeq 24 (bodyOf Yba.f3)) (bodyPost Yba.prog Yba.f3 fun e w' => e = .returned (.bool true) ∧ Stay wz.heap.size (fun _ => False) wz w')
      { tmps := #[x0, x1, x2, x3, x4, x5, x6, x7, x8, .int .i64 n, .int .i64 p, x11, x12, x13, x14, .pointer (some ⟨Bb, 0, none⟩), x16, .int .i64 lo, x18, .slice aW T.length cW, x20, x21, x22, .int .i64 (bsum S n : Nat), x24, .int .i64 W, .slice (some ⟨B0, 0, none⟩) W W, x27, .slice (some ⟨B1, 0, none⟩) W W, .int .i64 0, .slice none 0 0, x31, x32, x33, x34, x35, x36, x37, x38, x39, x40, x41, x42, x43, x44, x45, x46, x47, x48, x49, x50, x51, x52, x53, x54, x55, x56, x57, x58, x59, x60, x61, x62, x63, x64, x65, x66, x67, x68, x69, x70, x71, x72, x73, x74, x75, x76, x77, x78, x79, x80, x81, x82, x83, x84, x85, x86, x87, x88, x89, x90, x91, x92, x93, x94, x95, x96, x97, x98, x99, x100, x101, x102, x103, x104, x105, x106, x107, x108, x109, x110, x111, x112, x113, x114, x115, x116, x117, x118, x119, x120, x121, x122, x123, x124, x125, x126, x127, x128, x129, x130, x131, x132, x133, x134, x135, x136, x137, x138, x139, x140, x141, x142, x143, x144, x145, x146, x147, x148, x149, x150, x151, x152, x153, x154, x155, x156, x157, x158, x159, x160, x161, x162, x163, x164, x165, x166, x167, x168, x169, x170, x171, x172, x173, x174, x175, x176, x177, x178, x179, x180, x181, x182, x183, x184, x185, x186, x187, x188, x189, x190, x191, x192, x193, x194, x195, x196, x197, x198, x199, x200, x201, x202, x203, x204, x205, x206, x207, x208, x209, x210, x211, x212, x213, x214, x215, x216, x217, x218, x219, x220, x221, x222, x223, x224, x225, x226, x227, x228, x229, x230, x231, x232, x233, x234, x235, x236, x237, x238, x239, x240, x241, x242, x243, x244, x245, x246, x247, x248, x249, x250, x251, x252, x253, x254, x255, x256, x257, x258, x259, x260, x261, x262, x263, x264, x265, x266, x267, x268, x269, x270, x271, x272, x273, x274, x275, x276, x277, x278, x279, x280, x281, x282, x283, x284, x285, x286, x287, x288, x289, x290, x291, x292, x293, x294, x295, x296, x297, x298, x299, x300, x301, x302, x303, x304, x305, x306, x307, x308, x309, x310, x311, x312, x313, x314, x315, x316, x317, x318, x319, x320, x321, x322, x323, x324, x325, x326, x327, x328, x329, x330, x331, x332, x333, x334, x335, x336, x337, x338, x339, x340, x341, x342, x343, x344, x345, x346, x347, x348, x349, x350, x351, x352, x353, x354, x355, x356, x357, x358, x359, x360, x361, x362, x363, x364, x365, x366, x367, x368, x369, x370, x371, x372, x373, x374, x375, x376, x377, x378, x379, x380, x381, x382, x383, x384, x385, x386, x387, x388, x389, x390, x391, x392, x393, x394, x395, x396, x397, x398], defers := [] } w := by
  have HF : Hid _ := hF
  have HS : Hid _ := hS
  have HV : Hid _ := hV
  have HR : Hid (Row w B0 (W * 1) 35 (fun d => .int .u64 (wordOf S (lo + d))) ∧ Row w B1 (W * 1) 35 (fun d => .int .u64 (wordOf (fun v => v == p) (lo + d)))) := ⟨R0, R1⟩
  have HW : Hid _ := hW
  have hbl := bsum_le S n
  obtain ⟨i35, hi, hz0, hz1, hz2⟩ := info_parts inf35
  conv => arg 2; whnf
  clear hF hS hV R0 R1 hW
  go_upto_if 185 with (fail)
  go_cut [29, 30] (fun v29 v30 wc => v29 = .int .i64 b ∧ ∃ Bq cq, v30 = .slice (some ⟨Bq, 0, none⟩) len cq ∧ Stay wz.heap.size (fun _ => False) wz wc ∧ Tk wc aW Bv p T ∧ ∀ d, d < len → wc.cell? ⟨Bq, d, none⟩ = some (.int .u64 (G d)))
  case first =>
    by_cases hf : bsum S n = n
    · have hfb : (((bsum S n : Nat) : Int) == (n : Int)) = true := by rw [hf]; simp
      have Hf : Hid _ := hf
      clear hf
      go_wp2_with fail
      go_meet
      case rel =>
        rcases HW.out with ⟨_, rfl, rfl, hG⟩ | ⟨h, _⟩
        · refine ⟨rfl, B1, _, rfl, HS.out, HV.out, fun d hd => ?_⟩
          rw [HR.out.2.cell (by omega), hG d hd]
        · exact absurd Hf.out h
    · have hfb : (((bsum S n : Nat) : Int) == (n : Int)) = false := by simp; omega
      have Hf : Hid _ := hf
      clear hf
      go_wp2_with (at_builtin; refine wpList_append_own _ rfl _ _ 34 rfl wz.heap.size 35 i35 (.int .u64 0) 1 8 Yba.underlying34 hi hz0 hz1 hz2 rfl (by decide) _ _ _ rfl (HR.out.1.own hb0 (by unfold maxLen; omega)) ⟨B1, 0, none⟩ W W (listOf (fun d => .int .u64 (wordOf (fun v => v == p) (lo + d))) W) rfl (by rw [listOf_len]; omega) (fun j u hj => by
          rw [add_mid]
          have hj' : j < W := by have := (List.getElem?_eq_some_iff.1 hj).1; rwa [listOf_len] at this
          rw [listOf_get _ _ _ hj'] at hj
          rw [← hj]
          exact HR.out.2.cell (by omega)) (fun u hu => by obtain ⟨j, _, rfl⟩ := List.mem_map.1 hu; rfl) (by unfold maxLen; omega) (by omega) (by have := HS.out.size; omega) ?_; intro v' w2 hown2 hg2 _; obtain ⟨a', c', ev⟩ := own_form hown2; subst ev; have hg3 : w.grownBy w2 (some B0) := hg2; have HO : Hid _ := (⟨hown2, hg3⟩ : _ ∧ _); clear hown2 hg2 hg3)
      go_meet
      case rel =>
        rcases HW.out with ⟨h, _⟩ | ⟨_, e1, e2, hG⟩
        · exact absurd h Hf.out
        · obtain ⟨g, cap, ea⟩ := own_form1 HO.out.1 (by omega)
          rw [ea] at HO ⊢
          refine ⟨by rw [e1]; rfl, g, cap, by rw [e2], HS.out.grown HO.out.2 (by have := HS.out.size; omega) (fun k e => .inl ?_), ⟨HV.out.at_, fun j hj => HO.out.2.cell (HV.out.fst j hj) ?_, fun j hj => HO.out.2.cell (HV.out.snd j hj) ?_⟩, fun d hd => ?_⟩
          · have : k = B0 := by simpa using e.symm
            omega
          · have := hbv (by omega)
            simpa using this
          · have := hbv (by omega)
            simpa using this
          · rw [HO.out.1.cellAt d (by omega), hG d hd]
            by_cases hdW : d < W
            · rw [List.getElem?_append_left (by rw [listOf_len]; exact hdW), listOf_get _ _ _ hdW, if_pos hdW]
            · rw [List.getElem?_append_right (by rw [listOf_len]; omega), listOf_len, listOf_get _ _ _ (by omega), if_neg hdW]
  case rest =>
    obtain ⟨rfl, Bq, cq, rfl, hS2, hV2, hq⟩ := hcut
    go_step
    exact tail3 hn hp hT hlen HF.out hS2 hV2 hq
end Go.Proofs.Ybulkeamg
