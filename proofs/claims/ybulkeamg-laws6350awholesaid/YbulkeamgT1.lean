/- S6350A: the law, its model of the senders. -/
import Derived.Test.YbulkeamgT2
namespace Go.Proofs.Ybulkeamg
open Go.RowKit
set_option linter.unusedSimpArgs false

theorem inf4 : (Yba.prog.info? 4).map (fun i => (i.zero, i.size, i.bytes)) = some (some (.bool false), 1, 1) := by kernel_rfl

/-- Behind k rounds of the model's loop, kr of them marked in the row. -/
structure J1 (n p : Nat) (FQ : Nat → Nat) (w wr : World) (Bi kr k : Nat) (vW : Value) : Prop where
  row : Row wr Bi n 4 (fun v => .bool (inn p FQ kr v))
  own : wr.ownsRow (Bi + 1) 33 2 vW (tkn p FQ k).length (pairs p (tkn p FQ k))
  stay : Stay w.heap.size (fun _ => False) w wr
  bi : w.heap.size ≤ Bi
theorem J1.mark {n p : Nat} {FQ : Nat → Nat} {w wr : World} {Bi k : Nat} {vW : Value} (h : J1 n p FQ w wr Bi k k vW) : J1 n p FQ w (wr.setCell ⟨Bi, FQ k, none⟩ (.bool true)) Bi (k + 1) k vW := by
  refine ⟨(h.row.set _).congr (fun v hv => ?_), h.own.kept (grown_set _ _ _ _) (.inr fun e => by have := h.own.lt _ e; omega), h.stay.set _ (.inl h.bi), h.bi⟩
  simp only [upd, inn]
  by_cases e : v = FQ k
  · subst e; simp
  · rw [if_neg e]
    have : (v == FQ k) = false := by simpa using e
    rw [this, Bool.or_false]
theorem J1.skip {n p : Nat} {FQ : Nat → Nat} {w wr : World} {Bi kr k : Nat} {vW : Value} (h : J1 n p FQ w wr Bi kr k vW) (hq : FQ k = p) : J1 n p FQ w wr Bi kr (k + 1) vW :=
  ⟨h.row, by rw [(lo_skip hq).2.2]; exact h.own, h.stay, h.bi⟩
theorem J1.step {n p : Nat} {FQ : Nat → Nat} {w wr w2 : World} {Bi kr k : Nat} {vW v' : Value} {pr : Obj} (h : J1 n p FQ w wr Bi kr k vW) (hq : FQ k ≠ p)
    (hown : w2.ownsRow (Bi + 1) 33 2 v' ((tkn p FQ k).length + 1) (pairs p (tkn p FQ k) ++ [.int .i32 (FQ k), .int .i32 p])) (hg : (wr.alloc pr).grownBy w2 vW.ownBlock) : J1 n p FQ w w2 Bi kr (k + 1) v' := by
  have hl := h.own.lt
  have hsz := h.stay.size
  have et : tkn p FQ (k + 1) = tkn p FQ k ++ [FQ k] := by simp [tkn, hq]
  refine ⟨(h.row.alloc pr).grown hg (fun e => by have := hl _ e.symm; omega), by rw [et, pairs_snoc, List.length_append]; exact hown, (h.stay.alloc hsz pr).grown hg (by simp; omega) (fun k e => .inl (by have := hl k e; have := h.bi; omega)), h.bi⟩

set_option maxHeartbeats 4000000 in
set_option maxRecDepth 100000 in
theorem tail1 {n p L : Nat} {FQ : Nat → Nat} {w : World} {Bb : Nat} {B Bw cw : Nat → Nat} {aT : Option Addr} {cT Bt W Bx c b len : Nat} {G : Nat → Nat} {Bs cs : Nat} {sA sC : Option Addr} {bf g cC : Nat} {x0 x1 x2 x3 x4 x5 x6 x7 x8 x12 x13 x16 x17 x18 x19 x20 x21 x22 x23 x24 x25 x26 x27 x28 x29 x30 x31 x32 x33 x34 x35 x36 x37 x38 x39 x40 x41 x42 x43 x44 x45 x46 x47 x48 x49 x50 x51 x52 x53 x54 x55 x56 x57 x58 x59 x60 x61 x62 x63 x64 x65 x66 x67 x68 x69 x70 x71 x72 x73 x74 x75 x76 x77 x78 x79 x80 x81 x82 x83 x84 x85 x86 x87 x88 x89 x90 x91 x92 x93 x94 x95 x96 x97 x98 x99 x100 x101 x102 x103 x104 x105 x106 x107 x108 x109 x110 x111 x112 x113 x114 x115 x116 x117 x118 x119 x120 x121 x122 x123 x124 x125 x126 x127 x128 x129 x130 x131 x132 x133 x134 x135 x136 x137 x138 x139 x140 x141 x142 x143 x144 x145 x146 x147 x148 x149 x150 x151 x152 x153 x154 x155 x156 x157 x158 x159 x160 x161 x162 x163 x164 x165 x166 x167 x168 x169 x170 x171 x172 x173 x174 x175 x176 x177 x178 x179 x180 x181 x182 x183 x184 x185 x186 x187 x188 x189 x190 x191 x192 x193 x194 x195 x196 x197 x198 x199 x200 x201 x202 x203 x204 x205 x206 x207 x208 x209 x210 x211 x212 x213 x214 x215 x216 x217 x218 x219 x220 x221 x222 x223 x224 x225 x226 x227 x228 x229 x230 x231 x232 x233 x234 x235 x236 x237 x238 x239 x240 x241 x242 x243 x244 x245 x246 x247 x248 x249 x250 x251 x252 x253 x254 x255 x256 x257 x258 x259 x260 x261 x262 x263 x264 x265 x266 x267 x268 x269 x270 x271 x272 x273 x274 x275 x276 x277 x278 x279 x280 x281 x282 x283 x284 x285 x286 x287 x288 x289 x290 x291 x292 x293 x294 x295 x296 x297 x298 x299 x300 x301 x302 x303 x304 x305 x306 x307 x308 x309 x310 x311 x312 x313 x314 x315 x316 x317 x318 x319 x320 x321 x322 x323 x324 x325 x326 x327 x328 x329 x330 x331 x332 x333 x334 x335 x336 x337 x338 x339 x340 x341 x342 x343 x344 x345 x346 x347 x348 x349 x350 x351 x352 x353 x354 x355 x356 x357 x358 x359 x360 x361 x362 x363 x364 x365 x366 x367 x368 x369 x370 x371 x372 x373 x374 x375 x376 x377 x378 x379 x380 x381 x382 x383 x384 x385 x386 x387 x388 x389 x390 x391 x392 x393 x394 x395 x396 x397 x398 : Value}
    (hn : n ≤ 200) (hp : p < n) (hL : L ≤ 65536) (hq : ∀ j, j < L → FQ j < n) (hWe : hiK p FQ L + 1 = loK p FQ L + W) (hF : Fin n p (tkn p FQ L) w Bb B Bw cw aT cT Bt (loK p FQ L) W Bx c b len G Bs cs) (hlen : len ≤ 65536) (hW : Want (inn p FQ L) n p (loK p FQ L) W b len G) (hs : 0 < L → sA = some ⟨bf, 0, none⟩ ∧ sC = some ⟨g, 0, none⟩) (h1 : ∀ k, k < L → w.cell? ⟨bf, k, none⟩ = some (.int .i32 (FQ k))) (h2 : ∀ k, k < L → w.cell? ⟨g, k, none⟩ = some (.int .i32 (FQ k))) :
    Code.wp Yba.prog (dropSeq 9 (bodyOf Yba.f3)) (bodyPost Yba.prog Yba.f3 fun e w' => e = .returned (.bool true) ∧ Stay w.heap.size (fun _ => False) w w')
      { tmps := #[x0, x1, x2, x3, x4, x5, x6, x7, x8, .int .i64 n, .int .i64 p, .slice sA L L, x12, x13, .slice sC L cC, .pointer (some ⟨Bb, 0, none⟩), x16, x17, x18, x19, x20, x21, x22, x23, x24, x25, x26, x27, x28, x29, x30, x31, x32, x33, x34, x35, x36, x37, x38, x39, x40, x41, x42, x43, x44, x45, x46, x47, x48, x49, x50, x51, x52, x53, x54, x55, x56, x57, x58, x59, x60, x61, x62, x63, x64, x65, x66, x67, x68, x69, x70, x71, x72, x73, x74, x75, x76, x77, x78, x79, x80, x81, x82, x83, x84, x85, x86, x87, x88, x89, x90, x91, x92, x93, x94, x95, x96, x97, x98, x99, x100, x101, x102, x103, x104, x105, x106, x107, x108, x109, x110, x111, x112, x113, x114, x115, x116, x117, x118, x119, x120, x121, x122, x123, x124, x125, x126, x127, x128, x129, x130, x131, x132, x133, x134, x135, x136, x137, x138, x139, x140, x141, x142, x143, x144, x145, x146, x147, x148, x149, x150, x151, x152, x153, x154, x155, x156, x157, x158, x159, x160, x161, x162, x163, x164, x165, x166, x167, x168, x169, x170, x171, x172, x173, x174, x175, x176, x177, x178, x179, x180, x181, x182, x183, x184, x185, x186, x187, x188, x189, x190, x191, x192, x193, x194, x195, x196, x197, x198, x199, x200, x201, x202, x203, x204, x205, x206, x207, x208, x209, x210, x211, x212, x213, x214, x215, x216, x217, x218, x219, x220, x221, x222, x223, x224, x225, x226, x227, x228, x229, x230, x231, x232, x233, x234, x235, x236, x237, x238, x239, x240, x241, x242, x243, x244, x245, x246, x247, x248, x249, x250, x251, x252, x253, x254, x255, x256, x257, x258, x259, x260, x261, x262, x263, x264, x265, x266, x267, x268, x269, x270, x271, x272, x273, x274, x275, x276, x277, x278, x279, x280, x281, x282, x283, x284, x285, x286, x287, x288, x289, x290, x291, x292, x293, x294, x295, x296, x297, x298, x299, x300, x301, x302, x303, x304, x305, x306, x307, x308, x309, x310, x311, x312, x313, x314, x315, x316, x317, x318, x319, x320, x321, x322, x323, x324, x325, x326, x327, x328, x329, x330, x331, x332, x333, x334, x335, x336, x337, x338, x339, x340, x341, x342, x343, x344, x345, x346, x347, x348, x349, x350, x351, x352, x353, x354, x355, x356, x357, x358, x359, x360, x361, x362, x363, x364, x365, x366, x367, x368, x369, x370, x371, x372, x373, x374, x375, x376, x377, x378, x379, x380, x381, x382, x383, x384, x385, x386, x387, x388, x389, x390, x391, x392, x393, x394, x395, x396, x397, x398], defers := [] } w := by
  have HF : Hid _ := hF
  have HW : Hid _ := hW
  have HS : Hid _ := hs
  have HQ : Hid _ := hq
  have H2 : Hid _ := h2
  have HE : Hid _ := hWe
  have HC : Hid _ := equal32 sA sC bf g L L cC FQ w hL hs h1 h2
  have hmk := fun w => make_of Yba.underlying30 inf4 (by omega) n (show n ≤ 1000 by omega) w
  obtain ⟨i33, hi, hz0, hz1, hz2⟩ := info_parts info33
  conv => arg 2; whnf
  clear hF hW hs hq h1 h2 hWe
  go_upto_region 19 with (go_at_call 7; refine Calls.mono HC.out ?_; rintro e w2 ⟨rfl, q2, e2⟩; have E2 : Hid _ := e2; clear e2)
  have hS3 : Stay w.heap.size (fun _ => False) w (w2.alloc (.cells (madeCells #[.bool false] n) 4)) := by
    rw [E2.out]; exact ((Stay.refl w.heap.size (fun _ => False) w).drewN q2).alloc (Nat.le_refl _) _
  have hR3 := Row.new w2 (madeCells #[.bool false] n) 4 (fun _ => .bool false) (fun i hi => by
    rw [size_madeCells] at hi
    simp [madeCells, hi, Nat.mod_one])
  rw [size_madeCells] at hR3
  have hsz : w2.heap.size = w.heap.size := by rw [E2.out]; rfl
  generalize w2.alloc (.cells (madeCells #[.bool false] n) 4) = w3 at hS3 hR3 ⊢
  rw [hsz] at hR3 ⊢
  have c0 := hR3.cell (k := p) (by omega)
  have cf := hR3.frozen (k := p)
  have hJ0 : J1 n p FQ w (w3.setCell ⟨w.heap.size, p, none⟩ (.bool true)) w.heap.size 0 0 (.slice none 0 0) := by
    refine ⟨(hR3.set _).congr (fun v hv => ?_), World.ownsRow_nil _ _ _ _, hS3.set _ (.inl (Nat.le_refl _)), Nat.le_refl _⟩
    simp only [upd, inn]
    by_cases e : v = p
    · subst e; simp
    · rw [if_neg e]
      have : (v == p) = false := by simpa using e
      rw [this]
  have H0 : Hid _ := hJ0
  clear hS3 hR3 hJ0 hsz HC E2 hmk
  go_upto_region 20 with (fail)
  generalize w3.setCell ⟨w.heap.size, p, none⟩ (.bool true) = w4 at H0 ⊢
  clear c0 cf
  go_wp2_with fail
  go_loopw [17, 18, 19, 104] (fun vl vh vw v wr => ∃ (k : Nat) (aW : Option Addr) (cW : Nat), k ≤ L ∧ v = .int .i64 k ∧ vl = .int .i64 (loK p FQ k : Nat) ∧ vh = .int .i64 (hiK p FQ k : Nat) ∧ vw = .slice aW (tkn p FQ k).length cW ∧ J1 n p FQ w wr w.heap.size k k (.slice aW (tkn p FQ k).length cW)) (fun _ _ _ v _ => L - (intOf v).toNat)
  case atStart => exact ⟨0, none, 0, Nat.zero_le _, rfl, rfl, rfl, rfl, H0.out⟩
  case round =>
    obtain ⟨k, aW, cW, hk, rfl, rfl, rfl, rfl, hJ⟩ := hrel
    clear H0
    have HJ : Hid _ := hJ
    have htl := tkn_len p FQ k
    by_cases hlt : k < L
    · obtain ⟨es, et⟩ := HS.out (by omega)
      subst es et
      have hq := HQ.out k hlt
      have c0 := hJ.stay.some (H2.out k hlt)
      have c1 := hJ.row.cell (k := FQ k) hq
      have cf := hJ.row.frozen (k := FQ k)
      have hhi := hi_lt hp hn k (fun j hj => HQ.out j (by omega))
      have hlo := lo_le p FQ k
      clear hJ
      by_cases hqp : FQ k = p
      · have hqb : (((FQ k : Nat) : Int) != (p : Int)) = false := by simp [hqp]
        have Hqp : Hid (FQ k = p) := hqp
        clear hqp
        go_wp2_with fail
        exact ⟨⟨k + 1, aW, cW, by omega, by go_num, by rw [(lo_skip Hqp.out).1], by rw [(lo_skip Hqp.out).2.1], by rw [(lo_skip Hqp.out).2.2], by
          have := HJ.out.mark.skip Hqp.out
          rwa [← (lo_skip Hqp.out).2.2] at this⟩, by simp [intOf]; omega⟩
      · have hqb : (((FQ k : Nat) : Int) != (p : Int)) = true := by simp; omega
        have Hqp : Hid (¬ FQ k = p) := hqp
        clear hqp
        go_upto_region 27 with (fail)
        have hJ5 := HJ.out.mark
        generalize wr.setCell ⟨w.heap.size, FQ k, none⟩ (.bool true) = w5 at hJ5 ⊢
        have HJ5 : Hid _ := hJ5
        clear hJ5 HJ c0 c1 cf
        go_wp2_with (at_builtin; refine wpList_append_own _ rfl _ _ 31 rfl (w.heap.size + 1) 33 i33 (.agg #[.int .i32 0, .int .i32 0]) 2 8 Yba.underlying31 hi hz0 hz1 hz2 rfl (by decide) _ _ _ rfl (HJ5.out.own.alloc _) ⟨w5.heap.size, 0, none⟩ 1 1 [.int .i32 (FQ k), .int .i32 p] rfl rfl (cell_two_new _ _ _ _) (by simp [Value.oneCell']) (by unfold maxLen; omega) (by omega) (by have := HJ5.out.row.lt; simp; omega) ?_; intro v' w6 hown6 hg6 _; obtain ⟨a', c', ev⟩ := own_form hown6; subst ev; have HO : Hid _ := (⟨hown6, hg6⟩ : _ ∧ _); clear hown6 hg6)
        have et : (tkn p FQ (k + 1)).length = (tkn p FQ k).length + 1 := by simp [tkn, Hqp.out]
        refine ⟨⟨k + 1, a', c', by omega, by go_num, by simp only [loK]; congr 1; omega, by simp only [hiK]; congr 1; omega, by rw [et], ?_⟩, by simp [intOf]; omega⟩
        rw [et]
        exact HJ5.out.step Hqp.out HO.out.1 HO.out.2
    · have ek : k = L := by omega
      subst ek
      clear hJ
      go_upto_if 105 with (fail)
      go_step
      go_step
      go_step
      go_step
      go_step
      go_step
      obtain ⟨aV, cV, Bv, ev, hTk, hbv⟩ := Tk.of HJ.out.own
      obtain ⟨rfl, _, rfl⟩ : aV = aW ∧ True ∧ cV = cW := by
        injection ev with e1 e2 e3
        exact ⟨e1.symm, trivial, e3.symm⟩
      have hlh := lo_le p FQ k
      have hhi := hi_lt hp hn k HQ.out
      have hE := HE.out
      refine (tail2 hn hp (by omega) HF.out HJ.out.stay hTk hlen (by omega) (by omega) HW.out hE (by omega) (by omega) (fun v hv => by have := inn_word p FQ k v hv; omega) (fun v hv => inn_lt hp k v HQ.out hv) HJ.out.row.lt (fun h0 => ?_) ((by rw [Nat.mul_one]; exact HJ.out.row) : Row _ w.heap.size (n * 1) 4 _))
      exact World.block_lt_of_cell? _ _ (hTk.snd 0 h0)
end Go.Proofs.Ybulkeamg
