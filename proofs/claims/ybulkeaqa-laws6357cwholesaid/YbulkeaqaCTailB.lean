import Derived.Test.YbulkeaqaCTail
import Derived.Laws.StructEq
import Derived.RegionTactic
import Derived.BigRegion
import Derived.Deep.QuietTactic
import Derived.BigQuiet
import Derived.Deep.DeepCutAuto
import Derived.Maps.AppendAt
namespace Go.Proofs.Ybulkeaqa
open Go.RowKit
set_option linter.unusedSimpArgs false

/-- A body behind its first k statements. -/
noncomputable def dropSeq : Nat → Code → Code
  | 0, c => c
  | k + 1, .seq _ b => dropSeq k b
  | _, c => c
noncomputable def bodyOf (f : Func) : Code := f.body.getD .skip

/-- The tags, as they lie in w. -/
structure Tags (w : World) (sA : Option Addr) (sb so n : Nat) (TG : Nat → Nat → Int) : Prop where
  at_ : 0 < n → sA = some ⟨sb, so, none⟩ ∧ sb < w.heap.size
  tag : ∀ j i, j < n → i < 8 → w.cell? ⟨sb, so + j * 8 + i, none⟩ = some (.int .u8 (TG j i)) ∧ 0 ≤ TG j i ∧ TG j i ≤ 255

set_option maxRecDepth 100000 in
set_option maxHeartbeats 4000000 in
theorem tail2 {sA : Option Addr} {sb so a sc : Nat} {TG : Nat → Nat → Int} {lim : Nat} {w wm wt : World} {a10 a11 : Option Addr} {c10 c11 : Nat} {x1 x2 x4 x7 x8 x12 x13 x15 x16 x17 x18 x19 x20 x21 x22 x23 x24 x25 x26 x27 x28 x29 x30 x31 x32 x33 x34 x35 x36 x37 x38 x39 x40 x41 x42 x43 x44 x45 x46 x47 x48 x49 x50 x51 x52 x53 x54 x55 x56 x57 x58 x59 x60 x61 x62 x63 x64 x65 x66 x67 x68 x69 x70 x71 x72 x73 x74 x75 x76 x77 x78 x79 x80 x81 x82 x83 x84 x85 x86 x87 x88 x89 x90 x91 x92 x93 x94 x95 x96 x97 x98 x99 x100 x101 x102 x103 x104 x105 x106 x107 x108 x109 x110 x111 x112 x113 x114 x115 x116 x117 x118 x119 x120 x121 x122 x123 x124 x125 x126 x127 x128 x129 x130 x131 x132 x133 x134 x135 x136 x137 x138 x139 x140 x141 x142 x143 x144 x145 x146 x147 x148 x149 x150 x151 x152 x153 x154 x155 x156 x157 x158 x159 x160 x161 x162 x163 x164 x165 x166 x167 x168 x169 x170 x171 x172 x173 x174 x175 x176 x177 x178 x179 x180 x181 x182 x183 x184 x185 x186 x187 x188 x189 x190 x191 x192 x193 x194 x195 x196 x197 x198 x199 x200 x201 x202 x203 x204 x205 x206 x207 x208 x209 x210 x211 x212 x213 x214 x215 x216 x217 x218 x219 x220 x221 x222 x223 x224 x225 : Value}
    (hn : a ≤ 65536) (hl : lim ≤ 65535) (hT : Tags w sA sb so a TG) (hM : Made w wm TG lim a a (a - 1)) (hb : Below wm.heap.size wm wt)
    (h2 : Two wt wm.heap.size (.slice a10 (exTo TG a).length c10) (.slice a11 (exTo TG a).length c11) (fsts (exTo TG a)) (snds (exTo TG a))) :
    Code.wp Yba.prog (dropSeq 13 (bodyOf Yba.f4)) (bodyPost Yba.prog Yba.f4 fun e w' => e = .returned (.bool true) ∧ Below w.heap.size w w')
      { tmps := #[.slice sA a sc, x1, x2, .pointer (some ⟨w.heap.size, 0, none⟩), x4, .int .i64 a, .slice (some ⟨w.heap.size + 1, 0, none⟩) a a, x7, x8, .pointer (ptrAt (w.heap.size + 2) a 0), .slice a10 (exTo TG a).length c10, .slice a11 (exTo TG a).length c11, x12, x13, .int .i64 (wantN lim (exTo TG a).length), x15, x16, x17, x18, x19, x20, x21, x22, x23, x24, x25, x26, x27, x28, x29, x30, x31, x32, x33, x34, x35, x36, x37, x38, x39, x40, x41, x42, x43, x44, x45, x46, x47, x48, x49, x50, x51, x52, x53, x54, x55, x56, x57, x58, x59, x60, x61, x62, x63, x64, x65, x66, x67, x68, x69, x70, x71, x72, x73, x74, x75, x76, x77, x78, x79, x80, x81, x82, x83, x84, x85, x86, x87, x88, x89, x90, x91, x92, x93, x94, x95, x96, x97, x98, x99, x100, x101, x102, x103, x104, x105, x106, x107, x108, x109, x110, x111, x112, x113, x114, x115, x116, x117, x118, x119, x120, x121, x122, x123, x124, x125, x126, x127, x128, x129, x130, x131, x132, x133, x134, x135, x136, x137, x138, x139, x140, x141, x142, x143, x144, x145, x146, x147, x148, x149, x150, x151, x152, x153, x154, x155, x156, x157, x158, x159, x160, x161, x162, x163, x164, x165, x166, x167, x168, x169, x170, x171, x172, x173, x174, x175, x176, x177, x178, x179, x180, x181, x182, x183, x184, x185, x186, x187, x188, x189, x190, x191, x192, x193, x194, x195, x196, x197, x198, x199, x200, x201, x202, x203, x204, x205, x206, x207, x208, x209, x210, x211, x212, x213, x214, x215, x216, x217, x218, x219, x220, x221, x222, x223, x224, x225], defers := [] } wt := by
  have HT : Hid (Tags w sA sb so a TG) := hT
  have hel := exTo_len TG a
  conv => arg 2; whnf
  have HS : Hid _ := at_start (lim := lim) hM hb
  have hTG : ∀ j i, j < a → i < 8 → 0 ≤ TG j i ∧ TG j i ≤ 255 := fun j i hj hi => (HT.out.tag j i hj hi).2
  have HG : Hid _ := hTG
  have hE := entries_any (callW w wt a) (wt.heap.size + 3) wt.heap.size (wt.heap.size + 1) w.heap.size (wt.heap.size + 2) (w.heap.size + 2) a lim TG hn hl HS.out hTG
  have hE2 := hE.mono (R' := fun e W' => e = .returned (.tuple #[]) ∧ ∃ ag as_ cg cs, Fin w W' wt.heap.size a lim TG ag as_ cg cs a10 a11) (fun e W' h => ⟨h.1, fin hM hb h2 h.2.1 h.2.2⟩)
  have HE : Hid _ := hE2
  clear hE hE2 hTG HS hT hM hb h2
  go_wp2_with (first
    | (go_at_call 12; refine (entries_fn _ _).mono ?_; rintro e W2 ⟨rfl, rfl⟩)
    | (go_at_call 21; refine Calls.mono HE.out ?_; rintro e W' ⟨rfl, ag, as_, cg, cs, hF⟩; have hFg := hF.g; have hFs := hF.s; have HF : Hid _ := hF; clear hF))
  have hwl := wantN_le lim (exTo TG a).length
  go_loopw [18] (fun v wr => ∃ k : Nat, k ≤ wantN lim (exTo TG a).length ∧ v = .int .i64 k ∧ Fin w wr wt.heap.size a lim TG ag as_ cg cs a10 a11) (fun v _ => wantN lim (exTo TG a).length - (intOf v).toNat)
  case atStart => exact ⟨0, Nat.zero_le _, rfl, HF.out⟩
  case round =>
    obtain ⟨k, hk, rfl, hF⟩ := hrel
    have HF2 : Hid (Fin w wr wt.heap.size a lim TG ag as_ cg cs a10 a11) := hF
    by_cases hltk : k < wantN lim (exTo TG a).length
    · obtain ⟨j, i', bg, bs, b0, b1, hj, hi', e1, e2, e3, e4, k1, k2, k3, k4⟩ := hF.five k hltk
      have hg := hF.g
      have hs := hF.s
      have hr := cell_of hF.row (bsA_get _ _ a hj)
      rw [if_pos hj] at hr
      clear hF HF hFg hFs
      subst e1 e2 e3 e4
      go_wp2_with fail
      go_quiet (fail)
      go_wp2_with fail
      exact ⟨⟨k + 1, by omega, by go_num, HF2.out.drew _⟩, by simp [intOf]; omega⟩
    · clear hF HF hFg hFs
      go_wp2_with fail
      go_loopw [19] (fun v wr => ∃ k : Nat, k ≤ a ∧ v = .int .i64 k ∧ Fin w wr wt.heap.size a lim TG ag as_ cg cs a10 a11) (fun v _ => a - (intOf v).toNat)
      case atStart => exact ⟨0, Nat.zero_le _, rfl, HF2.out⟩
      case round =>
        clear HF2
        obtain ⟨j, hj, rfl, hF⟩ := hrel
        have HF2 : Hid (Fin w wr wt.heap.size a lim TG ag as_ cg cs a10 a11) := hF
        by_cases hltj : j < a
        · obtain ⟨e0, hsb⟩ := HT.out.at_ (by omega)
          have t0 := (hF.below.cell (p := ⟨sb, so + j * 8 + 0, none⟩) hsb).trans (HT.out.tag j 0 hltj (by omega)).1
          have t1 := (hF.below.cell (p := ⟨sb, so + j * 8 + 1, none⟩) hsb).trans (HT.out.tag j 1 hltj (by omega)).1
          have t2 := (hF.below.cell (p := ⟨sb, so + j * 8 + 2, none⟩) hsb).trans (HT.out.tag j 2 hltj (by omega)).1
          have t3 := (hF.below.cell (p := ⟨sb, so + j * 8 + 3, none⟩) hsb).trans (HT.out.tag j 3 hltj (by omega)).1
          have t4 := (hF.below.cell (p := ⟨sb, so + j * 8 + 4, none⟩) hsb).trans (HT.out.tag j 4 hltj (by omega)).1
          have t5 := (hF.below.cell (p := ⟨sb, so + j * 8 + 5, none⟩) hsb).trans (HT.out.tag j 5 hltj (by omega)).1
          have t6 := (hF.below.cell (p := ⟨sb, so + j * 8 + 6, none⟩) hsb).trans (HT.out.tag j 6 hltj (by omega)).1
          have t7 := (hF.below.cell (p := ⟨sb, so + j * 8 + 7, none⟩) hsb).trans (HT.out.tag j 7 hltj (by omega)).1
          rw [Nat.add_zero] at t0
          have s0 := cell_of (hF.bk j hltj) (bktA_tag _ _ _ (show 0 < 8 by omega))
          have s1 := cell_of (hF.bk j hltj) (bktA_tag _ _ _ (show 1 < 8 by omega))
          have s2 := cell_of (hF.bk j hltj) (bktA_tag _ _ _ (show 2 < 8 by omega))
          have s3 := cell_of (hF.bk j hltj) (bktA_tag _ _ _ (show 3 < 8 by omega))
          have s4 := cell_of (hF.bk j hltj) (bktA_tag _ _ _ (show 4 < 8 by omega))
          have s5 := cell_of (hF.bk j hltj) (bktA_tag _ _ _ (show 5 < 8 by omega))
          have s6 := cell_of (hF.bk j hltj) (bktA_tag _ _ _ (show 6 < 8 by omega))
          have s7 := cell_of (hF.bk j hltj) (bktA_tag _ _ _ (show 7 < 8 by omega))
          have s8 := cell_of (o := 8) (v := .int .i64 j) (hF.bk j hltj) rfl
          have s16 := cell_of (o := 16) (v := .int .i64 (-j)) (hF.bk j hltj) rfl
          have s24 := cell_of (hF.bk j hltj) (bktA_ov _ _ _)
          have hr := cell_of hF.row (bsA_get _ _ a hltj)
          rw [if_pos hltj] at hr
          subst e0
          by_cases hnx : j + 1 < a
          · have hr2 := cell_of hF.row (bsA_get _ _ a hnx)
            rw [if_pos hnx] at hr2
            have ep : ptrAt (w.heap.size + 2) a (j + 1) = some ⟨w.heap.size + 2 + (j + 1), 0, none⟩ := by unfold ptrAt; rw [if_pos hnx]
            rw [ep] at s24
            clear hF
            go_wp2_with fail
            go_quiet (fail)
            go_wp2_with fail
            go_quiet (fail)
            go_wp2_with fail
            exact ⟨⟨j + 1, by omega, by go_num, HF2.out.drew _⟩, by simp [intOf]; omega⟩
          · have ep : ptrAt (w.heap.size + 2) a (j + 1) = none := by unfold ptrAt; rw [if_neg hnx]
            rw [ep] at s24
            clear hF
            go_wp2_with fail
            go_quiet (fail)
            go_wp2_with fail
            exact ⟨⟨j + 1, by omega, by go_num, HF2.out.drew _⟩, by simp [intOf]; omega⟩
        · go_wp2_with fail
          go_ret
          exact ⟨rfl, HF2.out.below⟩
end Go.Proofs.Ybulkeaqa
