/- S6350A: the law, its calls. -/
import Derived.Test.YbulkeamgT1
namespace Go.Proofs.Ybulkeamg
open Go.RowKit
set_option linter.unusedSimpArgs false

theorem bodyPost_imp {P : Program} {f : Func} {R R' : Ending → World → Prop} (h : ∀ e w, R e w → R' e w) (x : Exit) (a : Act) (w : World) (hb : bodyPost P f R x a w) : bodyPost P f R' x a w := by
  cases x with
  | normal => exact ⟨hb.1, hb.2.imp fun v hv => ⟨hv.1, h _ _ hv.2⟩⟩
  | ret => exact ⟨hb.1, hb.2.imp fun v hv => ⟨hv.1, h _ _ hv.2⟩⟩
  | panic c => exact ⟨hb.1, h _ _ hb.2⟩
  | outgrown => exact h _ _ hb
  | _ => exact hb

/-- The senders, as they lie in w. -/
def Sent (w : World) (sA : Option Addr) (L : Nat) (FQ : Nat → Nat) (b : Nat) : Prop := (sA = none ∧ L = 0) ∨ (sA = some ⟨b, 0, none⟩ ∧ Row w b L 21 (fun j => .int .i32 (FQ j)))

theorem clone_any (sA : Option Addr) (L b : Nat) (FQ : Nat → Nat) (w : World) (hL : L ≤ 65536) (h : Sent w sA L FQ b) :
    Calls Yba.prog 4 #[.slice sA L L] w fun e w' => ∃ sC cC g, e = .returned (.slice sC L cC) ∧ (0 < L → sC = some ⟨g, 0, none⟩) ∧ (∀ k, k < L → w'.cell? ⟨g, k, none⟩ = some (.int .i32 (FQ k))) ∧ Stay w.heap.size (fun _ => False) w w' := by
  rcases h with ⟨rfl, rfl⟩ | ⟨rfl, hR⟩
  · refine (clone_nil w).mono ?_
    rintro e w' ⟨rfl, rfl⟩
    exact ⟨none, 0, 0, rfl, fun h => by omega, fun k hk => by omega, Stay.refl _ _ w⟩
  · refine (clone_row b L (listOf (fun j => .int .i32 (FQ j)) L) w (listOf_len _ _) hL (fun j u hj => ?_) (fun u hu => by obtain ⟨j, _, rfl⟩ := List.mem_map.1 hu; rfl) hR.lt).mono ?_
    · have hj' : j < L := by have := (List.getElem?_eq_some_iff.1 hj).1; rwa [listOf_len] at this
      rw [listOf_get _ _ _ hj'] at hj
      rw [← hj]
      exact hR.cell hj'
    · rintro e w' ⟨v, rfl, hown, hb⟩
      have hst : Stay w.heap.size (fun _ => False) w w' := ⟨hb.os, hb.tape, hb.output, hb.size, fun b hb' _ => hb.block b hb'⟩
      obtain ⟨ao, c, rfl⟩ := own_form hown
      by_cases h0 : 0 < L
      · obtain ⟨g, c', e⟩ := own_form1 hown h0
        rw [e] at hown ⊢
        exact ⟨_, c', g, rfl, fun _ => rfl, fun k hk => by rw [hown.cellAt k (by omega), listOf_get _ _ _ hk], hst⟩
      · exact ⟨ao, c, 0, rfl, fun h => absurd h h0, fun k hk => by omega, hst⟩

/-- settle leaves what was there before newQueryBook. -/
theorem left_stay {n : Nat} {m : Int} {p L : Nat} {FQ : Nat → Nat} {w0 ws w : World} {Bb : Nat} {B Bw cw : Nat → Nat} {base : Nat} {sA : Option Addr} {Bf : Nat} (hA : Ask n m p L FQ w0 ws Bb B Bw cw base sA Bf) (h : Left n m p L FQ ws w Bb B) : Stay w0.heap.size (fun _ => False) ws w := by
  have lb := hA.book.lowb
  have l7 := hA.book.low 7 (by omega)
  have l3 := hA.book.low 3 (by omega)
  have hs := hA.book.stay.size
  have h' : Stay ws.heap.size (fun b => b = Bb ∨ b = B 7 ∨ b = B 3) ws w := by
    obtain ⟨_, _, _, _, _, ⟨_, h⟩ | ⟨_, h⟩⟩ := h <;> exact h.stay
  exact ⟨h'.os, h'.tape, h'.output, h'.size, fun b hb _ => h'.block b (by omega) (by omega)⟩
theorem after_all {w w1 w2 w3 w4 w5 : World} (h1 : Stay w.heap.size (fun _ => False) w w1) (h2 : Stay w1.heap.size (fun _ => False) w1 w2) (h3 : Stay w2.heap.size (fun _ => False) w2 w3) (h4 : Stay w2.heap.size (fun _ => False) w3 w4) (h5 : Stay w4.heap.size (fun _ => False) w4 w5) : Below w.heap.size w w5 := by
  have a2 := h1.next h2
  have a3 := a2.next h3
  have hs3 := h3.size
  have hs4 := h4.size
  have hs2 := a2.size
  exact ⟨by rw [h5.os, h4.os, a3.os], by rw [h5.tape, h4.tape, a3.tape], by rw [h5.output, h4.output, a3.output], by have := h5.size; omega, fun b hb => by
    rw [h5.block b (by omega) id, h4.block b (by omega) id, a3.block b hb id]⟩
theorem want_full {S : Nat → Bool} {n p lo W : Nat} (h : bsum S n = n) : Want S n p lo W 1 W (fun d => gB S p lo W (W + d)) :=
  .inl ⟨h, rfl, rfl, fun d hd => by
    show gB S p lo W (W + d) = _
    unfold gB; rw [if_neg (by omega), if_pos (by omega), Nat.add_sub_cancel_left]⟩
theorem want_part {S : Nat → Bool} {n p lo W : Nat} (h : bsum S n ≠ n) : Want S n p lo W 0 (2 * W) (gB S p lo W) :=
  .inr ⟨h, rfl, by omega, fun d hd => by
    unfold gB
    by_cases e : d < W
    · rw [if_pos e, if_pos e]
    · rw [if_neg e, if_neg e, if_pos hd]⟩

set_option maxRecDepth 100000 in
theorem tail_left {n : Nat} {m : Int} {p L : Nat} {FQ : Nat → Nat} {w0 ws w : World} {Bb : Nat} {B Bw cw : Nat → Nat} {base : Nat} {sA sC : Option Addr} {Bf g cC : Nat} {x0 x1 x2 x3 x4 x5 x6 x7 x8 x12 x13 x16 x17 x18 x19 x20 x21 x22 x23 x24 x25 x26 x27 x28 x29 x30 x31 x32 x33 x34 x35 x36 x37 x38 x39 x40 x41 x42 x43 x44 x45 x46 x47 x48 x49 x50 x51 x52 x53 x54 x55 x56 x57 x58 x59 x60 x61 x62 x63 x64 x65 x66 x67 x68 x69 x70 x71 x72 x73 x74 x75 x76 x77 x78 x79 x80 x81 x82 x83 x84 x85 x86 x87 x88 x89 x90 x91 x92 x93 x94 x95 x96 x97 x98 x99 x100 x101 x102 x103 x104 x105 x106 x107 x108 x109 x110 x111 x112 x113 x114 x115 x116 x117 x118 x119 x120 x121 x122 x123 x124 x125 x126 x127 x128 x129 x130 x131 x132 x133 x134 x135 x136 x137 x138 x139 x140 x141 x142 x143 x144 x145 x146 x147 x148 x149 x150 x151 x152 x153 x154 x155 x156 x157 x158 x159 x160 x161 x162 x163 x164 x165 x166 x167 x168 x169 x170 x171 x172 x173 x174 x175 x176 x177 x178 x179 x180 x181 x182 x183 x184 x185 x186 x187 x188 x189 x190 x191 x192 x193 x194 x195 x196 x197 x198 x199 x200 x201 x202 x203 x204 x205 x206 x207 x208 x209 x210 x211 x212 x213 x214 x215 x216 x217 x218 x219 x220 x221 x222 x223 x224 x225 x226 x227 x228 x229 x230 x231 x232 x233 x234 x235 x236 x237 x238 x239 x240 x241 x242 x243 x244 x245 x246 x247 x248 x249 x250 x251 x252 x253 x254 x255 x256 x257 x258 x259 x260 x261 x262 x263 x264 x265 x266 x267 x268 x269 x270 x271 x272 x273 x274 x275 x276 x277 x278 x279 x280 x281 x282 x283 x284 x285 x286 x287 x288 x289 x290 x291 x292 x293 x294 x295 x296 x297 x298 x299 x300 x301 x302 x303 x304 x305 x306 x307 x308 x309 x310 x311 x312 x313 x314 x315 x316 x317 x318 x319 x320 x321 x322 x323 x324 x325 x326 x327 x328 x329 x330 x331 x332 x333 x334 x335 x336 x337 x338 x339 x340 x341 x342 x343 x344 x345 x346 x347 x348 x349 x350 x351 x352 x353 x354 x355 x356 x357 x358 x359 x360 x361 x362 x363 x364 x365 x366 x367 x368 x369 x370 x371 x372 x373 x374 x375 x376 x377 x378 x379 x380 x381 x382 x383 x384 x385 x386 x387 x388 x389 x390 x391 x392 x393 x394 x395 x396 x397 x398 : Value}
    (hA : Ask n m p L FQ w0 ws Bb B Bw cw base sA Bf) (h : Left n m p L FQ ws w Bb B) (hs : 0 < L → sA = some ⟨Bf, 0, none⟩ ∧ sC = some ⟨g, 0, none⟩) (hg : ∀ k, k < L → w0.cell? ⟨g, k, none⟩ = some (.int .i32 (FQ k))) :
    Code.wp Yba.prog (dropSeq 9 (bodyOf Yba.f3)) (bodyPost Yba.prog Yba.f3 fun e w' => e = .returned (.bool true) ∧ Stay w.heap.size (fun _ => False) w w')
      { tmps := #[x0, x1, x2, x3, x4, x5, x6, x7, x8, .int .i64 n, .int .i64 p, .slice sA L L, x12, x13, .slice sC L cC, .pointer (some ⟨Bb, 0, none⟩), x16, x17, x18, x19, x20, x21, x22, x23, x24, x25, x26, x27, x28, x29, x30, x31, x32, x33, x34, x35, x36, x37, x38, x39, x40, x41, x42, x43, x44, x45, x46, x47, x48, x49, x50, x51, x52, x53, x54, x55, x56, x57, x58, x59, x60, x61, x62, x63, x64, x65, x66, x67, x68, x69, x70, x71, x72, x73, x74, x75, x76, x77, x78, x79, x80, x81, x82, x83, x84, x85, x86, x87, x88, x89, x90, x91, x92, x93, x94, x95, x96, x97, x98, x99, x100, x101, x102, x103, x104, x105, x106, x107, x108, x109, x110, x111, x112, x113, x114, x115, x116, x117, x118, x119, x120, x121, x122, x123, x124, x125, x126, x127, x128, x129, x130, x131, x132, x133, x134, x135, x136, x137, x138, x139, x140, x141, x142, x143, x144, x145, x146, x147, x148, x149, x150, x151, x152, x153, x154, x155, x156, x157, x158, x159, x160, x161, x162, x163, x164, x165, x166, x167, x168, x169, x170, x171, x172, x173, x174, x175, x176, x177, x178, x179, x180, x181, x182, x183, x184, x185, x186, x187, x188, x189, x190, x191, x192, x193, x194, x195, x196, x197, x198, x199, x200, x201, x202, x203, x204, x205, x206, x207, x208, x209, x210, x211, x212, x213, x214, x215, x216, x217, x218, x219, x220, x221, x222, x223, x224, x225, x226, x227, x228, x229, x230, x231, x232, x233, x234, x235, x236, x237, x238, x239, x240, x241, x242, x243, x244, x245, x246, x247, x248, x249, x250, x251, x252, x253, x254, x255, x256, x257, x258, x259, x260, x261, x262, x263, x264, x265, x266, x267, x268, x269, x270, x271, x272, x273, x274, x275, x276, x277, x278, x279, x280, x281, x282, x283, x284, x285, x286, x287, x288, x289, x290, x291, x292, x293, x294, x295, x296, x297, x298, x299, x300, x301, x302, x303, x304, x305, x306, x307, x308, x309, x310, x311, x312, x313, x314, x315, x316, x317, x318, x319, x320, x321, x322, x323, x324, x325, x326, x327, x328, x329, x330, x331, x332, x333, x334, x335, x336, x337, x338, x339, x340, x341, x342, x343, x344, x345, x346, x347, x348, x349, x350, x351, x352, x353, x354, x355, x356, x357, x358, x359, x360, x361, x362, x363, x364, x365, x366, x367, x368, x369, x370, x371, x372, x373, x374, x375, x376, x377, x378, x379, x380, x381, x382, x383, x384, x385, x386, x387, x388, x389, x390, x391, x392, x393, x394, x395, x396, x397, x398], defers := [] } w := by
  have hst := left_stay hA h
  have hlh := lo_le p FQ L
  have hhi := hi_lt hA.p1 hA.n1 L hA.q1
  have h1 : ∀ k, k < L → w.cell? ⟨Bf, k, none⟩ = some (.int .i32 (FQ k)) := fun k hk => by
    rw [hst.cell Bf k (hA.at_ (by omega)).2 id]; exact hA.from_ k hk
  have h2 : ∀ k, k < L → w.cell? ⟨g, k, none⟩ = some (.int .i32 (FQ k)) := fun k hk => by
    have hb := World.block_lt_of_cell? w0 _ (hg k hk)
    rw [hst.cell g k hb id]
    exact hA.book.stay.some (hg k hk)
  have hWe : hiK p FQ L + 1 = loK p FQ L + (hiK p FQ L + 1 - loK p FQ L) := by omega
  obtain ⟨vT, Bx, c, Bs, cs, ⟨hf, hS⟩ | ⟨hf, hS⟩⟩ := h
  · obtain ⟨aT, cT, Bt, hF⟩ := Fin.of hA hS
    exact tail1 hA.n1 hA.p1 hA.l1 hA.q1 hWe hF (by omega) (want_full hf) hs h1 h2
  · obtain ⟨aT, cT, Bt, hF⟩ := Fin.of hA hS
    exact tail1 hA.n1 hA.p1 hA.l1 hA.q1 hWe hF (by omega) (want_part hf) hs h1 h2

set_option maxHeartbeats 4000000 in
set_option maxRecDepth 100000 in
theorem tail0 {m : Int} {N n p : Nat} {FQ : Nat → Nat} {w w1 : World} {sA : Option Addr} {x0 x2 x3 x4 x5 x6 x7 x8 x12 x13 x14 x15 x16 x17 x18 x19 x20 x21 x22 x23 x24 x25 x26 x27 x28 x29 x30 x31 x32 x33 x34 x35 x36 x37 x38 x39 x40 x41 x42 x43 x44 x45 x46 x47 x48 x49 x50 x51 x52 x53 x54 x55 x56 x57 x58 x59 x60 x61 x62 x63 x64 x65 x66 x67 x68 x69 x70 x71 x72 x73 x74 x75 x76 x77 x78 x79 x80 x81 x82 x83 x84 x85 x86 x87 x88 x89 x90 x91 x92 x93 x94 x95 x96 x97 x98 x99 x100 x101 x102 x103 x104 x105 x106 x107 x108 x109 x110 x111 x112 x113 x114 x115 x116 x117 x118 x119 x120 x121 x122 x123 x124 x125 x126 x127 x128 x129 x130 x131 x132 x133 x134 x135 x136 x137 x138 x139 x140 x141 x142 x143 x144 x145 x146 x147 x148 x149 x150 x151 x152 x153 x154 x155 x156 x157 x158 x159 x160 x161 x162 x163 x164 x165 x166 x167 x168 x169 x170 x171 x172 x173 x174 x175 x176 x177 x178 x179 x180 x181 x182 x183 x184 x185 x186 x187 x188 x189 x190 x191 x192 x193 x194 x195 x196 x197 x198 x199 x200 x201 x202 x203 x204 x205 x206 x207 x208 x209 x210 x211 x212 x213 x214 x215 x216 x217 x218 x219 x220 x221 x222 x223 x224 x225 x226 x227 x228 x229 x230 x231 x232 x233 x234 x235 x236 x237 x238 x239 x240 x241 x242 x243 x244 x245 x246 x247 x248 x249 x250 x251 x252 x253 x254 x255 x256 x257 x258 x259 x260 x261 x262 x263 x264 x265 x266 x267 x268 x269 x270 x271 x272 x273 x274 x275 x276 x277 x278 x279 x280 x281 x282 x283 x284 x285 x286 x287 x288 x289 x290 x291 x292 x293 x294 x295 x296 x297 x298 x299 x300 x301 x302 x303 x304 x305 x306 x307 x308 x309 x310 x311 x312 x313 x314 x315 x316 x317 x318 x319 x320 x321 x322 x323 x324 x325 x326 x327 x328 x329 x330 x331 x332 x333 x334 x335 x336 x337 x338 x339 x340 x341 x342 x343 x344 x345 x346 x347 x348 x349 x350 x351 x352 x353 x354 x355 x356 x357 x358 x359 x360 x361 x362 x363 x364 x365 x366 x367 x368 x369 x370 x371 x372 x373 x374 x375 x376 x377 x378 x379 x380 x381 x382 x383 x384 x385 x386 x387 x388 x389 x390 x391 x392 x393 x394 x395 x396 x397 x398 : Value}
    (hN : N ≤ 65536) (hn : n ≤ 200) (hn0 : 0 < n) (hp : p < n) (hq : ∀ j, j < N → FQ j < n) (hS1 : Stay w.heap.size (fun _ => False) w w1) (hSent : Sent w1 sA N FQ w.heap.size) :
    Code.wp Yba.prog (dropSeq 6 (bodyOf Yba.f3)) (bodyPost Yba.prog Yba.f3 fun e w' => e = .returned (.bool true) ∧ Below w.heap.size w w')
      { tmps := #[x0, .int .i64 m, x2, x3, x4, x5, x6, x7, x8, .int .i64 n, .int .i64 p, .slice sA N N, x12, x13, x14, x15, x16, x17, x18, x19, x20, x21, x22, x23, x24, x25, x26, x27, x28, x29, x30, x31, x32, x33, x34, x35, x36, x37, x38, x39, x40, x41, x42, x43, x44, x45, x46, x47, x48, x49, x50, x51, x52, x53, x54, x55, x56, x57, x58, x59, x60, x61, x62, x63, x64, x65, x66, x67, x68, x69, x70, x71, x72, x73, x74, x75, x76, x77, x78, x79, x80, x81, x82, x83, x84, x85, x86, x87, x88, x89, x90, x91, x92, x93, x94, x95, x96, x97, x98, x99, x100, x101, x102, x103, x104, x105, x106, x107, x108, x109, x110, x111, x112, x113, x114, x115, x116, x117, x118, x119, x120, x121, x122, x123, x124, x125, x126, x127, x128, x129, x130, x131, x132, x133, x134, x135, x136, x137, x138, x139, x140, x141, x142, x143, x144, x145, x146, x147, x148, x149, x150, x151, x152, x153, x154, x155, x156, x157, x158, x159, x160, x161, x162, x163, x164, x165, x166, x167, x168, x169, x170, x171, x172, x173, x174, x175, x176, x177, x178, x179, x180, x181, x182, x183, x184, x185, x186, x187, x188, x189, x190, x191, x192, x193, x194, x195, x196, x197, x198, x199, x200, x201, x202, x203, x204, x205, x206, x207, x208, x209, x210, x211, x212, x213, x214, x215, x216, x217, x218, x219, x220, x221, x222, x223, x224, x225, x226, x227, x228, x229, x230, x231, x232, x233, x234, x235, x236, x237, x238, x239, x240, x241, x242, x243, x244, x245, x246, x247, x248, x249, x250, x251, x252, x253, x254, x255, x256, x257, x258, x259, x260, x261, x262, x263, x264, x265, x266, x267, x268, x269, x270, x271, x272, x273, x274, x275, x276, x277, x278, x279, x280, x281, x282, x283, x284, x285, x286, x287, x288, x289, x290, x291, x292, x293, x294, x295, x296, x297, x298, x299, x300, x301, x302, x303, x304, x305, x306, x307, x308, x309, x310, x311, x312, x313, x314, x315, x316, x317, x318, x319, x320, x321, x322, x323, x324, x325, x326, x327, x328, x329, x330, x331, x332, x333, x334, x335, x336, x337, x338, x339, x340, x341, x342, x343, x344, x345, x346, x347, x348, x349, x350, x351, x352, x353, x354, x355, x356, x357, x358, x359, x360, x361, x362, x363, x364, x365, x366, x367, x368, x369, x370, x371, x372, x373, x374, x375, x376, x377, x378, x379, x380, x381, x382, x383, x384, x385, x386, x387, x388, x389, x390, x391, x392, x393, x394, x395, x396, x397, x398], defers := [] } w1 := by
  have H1 : Hid _ := (⟨hS1, hSent⟩ : _ ∧ _)
  have HB : Hid _ := hq
  have HC : Hid _ := clone_any sA N w.heap.size FQ w1 hN hSent
  conv => arg 2; whnf
  clear hS1 hSent hq
  go_upto_region 14 with (go_at_call 4; refine Calls.mono HC.out ?_; rintro e w2 ⟨sC, cC, g, rfl, hC, hg, hS2⟩; have H2 : Hid _ := (⟨hC, hg, hS2⟩ : _ ∧ _ ∧ _); clear hC hg hS2)
  clear HC
  go_upto_region 15 with (go_at_call 5; refine Calls.mono (book_any n m w2 hn0 hn) ?_; rintro e w3 ⟨Bb, B, Bw, cw, base, rfl, hBk⟩; have H3 : Hid _ := hBk; clear hBk)
  have hA : Ask n m p N FQ w2 w3 Bb B Bw cw base sA w.heap.size := by
    have hst := H3.out.stay
    have hs2 := H2.out.2.2
    have hsz := hs2.size
    refine ⟨H3.out, hn, hp, hN, HB.out, fun h0 => ?_, fun j hj => ?_⟩
    · rcases H1.out.2 with ⟨_, h⟩ | ⟨h, hr⟩
      · omega
      · have := hr.lt
        exact ⟨h, by omega⟩
    · rcases H1.out.2 with ⟨_, h⟩ | ⟨_, hr⟩
      · omega
      · exact hst.some (hs2.some (hr.cell hj))
  have HA : Hid _ := hA
  have HD : Hid _ := settle_any n m p N FQ w2 w3 Bb B Bw cw base sA w.heap.size N hA
  clear hA
  go_cut [] (fun wc => Left n m p N FQ w3 wc Bb B)
  case first =>
    go_wp2_with (go_at_call 6; refine Calls.mono HD.out ?_; rintro e w4 ⟨rfl, hL4⟩; have H4 : Hid _ := hL4; clear hL4)
    go_meet
    case rel => exact H4.out
  case rest =>
    rename World => w4
    have H4 : Hid _ := hcut
    clear hcut
    go_step
    exact Code.wp_mono (bodyPost_imp (fun e w' h => ⟨h.1, after_all H1.out.1 H2.out.2.2 H3.out.stay (left_stay HA.out H4.out) h.2⟩)) (tail_left HA.out H4.out (fun h0 => ⟨(HA.out.at_ h0).1, H2.out.1 h0⟩) H2.out.2.1)
end Go.Proofs.Ybulkeamg
