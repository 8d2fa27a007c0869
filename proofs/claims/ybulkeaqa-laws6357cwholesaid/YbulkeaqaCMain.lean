import Derived.Test.YbulkeaqaCTailB
import Derived.Laws.StructEq
import Derived.RegionTactic
import Derived.BigRegion
import Derived.Deep.QuietTactic
import Derived.BigQuiet
import Derived.Deep.DeepCutAuto
import Derived.Maps.AppendAt
namespace Go.Proofs.Ybulkeaqa
open Go.RowKit
set_option linter.unusedSimpArgs false


set_option maxRecDepth 100000 in
set_option maxHeartbeats 1000000 in
theorem lawC_long (sA : Option Addr) (n sc : Nat) (lim : Int) (w : World) (h : 65536 < n) (hn : n ≤ 9223372036854775807) :
    Calls Yba.prog 4 #[.slice sA n sc, .int .u16 lim] w fun e w' => e = .returned (.bool true) ∧ Below w.heap.size w w' := by
  have hd : decide ((65536 : Int) < (n : Int)) = true := by simp; omega
  go_enter Yba.func4, Yba.ntmps4
  go_wp2
  go_ret
  exact ⟨rfl, (Below.refl _ _).alloc (Nat.le_refl _) _⟩

set_option maxRecDepth 100000 in
set_option maxHeartbeats 4000000 in
theorem lawC_main (sA : Option Addr) (sb so n sc : Nat) (TG : Nat → Nat → Int) (lim : Nat) (w : World) (hn : n ≤ 65536) (hl : lim ≤ 65535) (hT : Tags w sA sb so n TG) :
    Calls Yba.prog 4 #[.slice sA n sc, .int .u16 lim] w fun e w' => e = .returned (.bool true) ∧ Below w.heap.size w w' := by
  have hd : decide ((65536 : Int) < (n : Int)) = false := by simp; omega
  have HT : Hid (Tags w sA sb so n TG) := hT
  have hmk := run_make_row' (P := Yba.prog) 61 62 (.pointer none) 8 Yba.underlying61 info62 rfl .i64 .i64 n (by omega) (by omega)
  clear hT
  go_enter Yba.func4, Yba.ntmps4
  go_wp2
  have HM0 : Hid (Made w ((w.alloc (.cells #[.int .u16 lim] 60)).alloc (.cells (madeCells #[.pointer none] n) 62)) TG lim n 0 0) := made_start w TG lim n
  go_loopw [7] (fun c wr => ∃ j : Nat, j ≤ n ∧ c = .int .i64 j ∧ Made w wr TG lim n j 0) (fun c _ => n - (intOf c).toNat)
  case atStart => exact ⟨0, Nat.zero_le _, rfl, HM0.out⟩
  case round =>
    obtain ⟨j, hj, rfl, hmade⟩ := hrel
    have HM : Hid (Made w wr TG lim n j 0) := hmade
    clear HM0
    by_cases hlt : j < n
    · obtain ⟨e0, hsb⟩ := HT.out.at_ (by omega)
      have t0 := (hmade.below.cell (p := ⟨sb, so + j * 8 + 0, none⟩) hsb).trans (HT.out.tag j 0 hlt (by omega)).1
      have t1 := (hmade.below.cell (p := ⟨sb, so + j * 8 + 1, none⟩) hsb).trans (HT.out.tag j 1 hlt (by omega)).1
      have t2 := (hmade.below.cell (p := ⟨sb, so + j * 8 + 2, none⟩) hsb).trans (HT.out.tag j 2 hlt (by omega)).1
      have t3 := (hmade.below.cell (p := ⟨sb, so + j * 8 + 3, none⟩) hsb).trans (HT.out.tag j 3 hlt (by omega)).1
      have t4 := (hmade.below.cell (p := ⟨sb, so + j * 8 + 4, none⟩) hsb).trans (HT.out.tag j 4 hlt (by omega)).1
      have t5 := (hmade.below.cell (p := ⟨sb, so + j * 8 + 5, none⟩) hsb).trans (HT.out.tag j 5 hlt (by omega)).1
      have t6 := (hmade.below.cell (p := ⟨sb, so + j * 8 + 6, none⟩) hsb).trans (HT.out.tag j 6 hlt (by omega)).1
      have t7 := (hmade.below.cell (p := ⟨sb, so + j * 8 + 7, none⟩) hsb).trans (HT.out.tag j 7 hlt (by omega)).1
      rw [Nat.add_zero] at t0
      have hr := cell_of hmade.row (bsA_get _ _ _ hlt)
      rw [if_neg (by omega)] at hr
      have hf := frozen_of (o := j) hmade.row
      have hzz : w.heap.size + 1 < wr.heap.size := by have := hmade.size; omega
      clear hmade HT
      subst e0
      go_wp2
      exact ⟨⟨j + 1, by omega, by go_num, made_one HM.out hlt⟩, by simp [intOf]; omega⟩
    · have ej : j = n := by omega
      subst ej
      clear hmade
      go_wp2_with fail
      go_loopw [8] (fun c wr => ∃ i : Nat, (i = 0 ∨ i + 1 ≤ j) ∧ c = .int .i64 i ∧ Made w wr TG lim j j i) (fun c _ => j - (intOf c).toNat)
      case atStart => exact ⟨0, .inl rfl, rfl, HM.out⟩
      case round =>
        clear HM
        obtain ⟨i, hi, rfl, hmade⟩ := hrel
        have HM : Hid (Made w wr TG lim j j i) := hmade
        by_cases hlt2 : i + 1 < j
        · have r0 := cell_of hmade.row (bsA_get _ _ j (show i < j by omega))
          have r1 := cell_of hmade.row (bsA_get _ _ j hlt2)
          rw [if_pos (by omega)] at r0 r1
          have b0 := cell_of (hmade.bk i (by omega)) (bktA_ov _ _ _)
          rw [if_neg (by omega)] at b0
          have f0 := frozen_of (o := 24) (hmade.bk i (by omega))
          clear hmade
          go_wp2_with fail
          go_region
          go_wp2
          exact ⟨⟨i + 1, by omega, by go_num, made_link HM.out hlt2 1⟩, by simp [intOf]; omega⟩
        · have HD : Hid (Made w wr TG lim j j (j - 1)) := hmade.done hi hlt2
          clear HM hmade
          have hge : ¬ ((i : Int) + 1 < (j : Int)) := by omega
          go_upto_if 76 with (fail)
          go_cut [9] (fun v wc => v = .pointer (ptrAt (w.heap.size + 2) j 0) ∧ wc = wr)
          case first =>
            by_cases hj0 : 0 < j
            · have r0 := cell_of HD.out.row (bsA_get _ _ j hj0)
              rw [if_pos hj0] at r0
              go_wp2
              go_meet
              case rel => exact ⟨by unfold ptrAt; rw [if_pos hj0], rfl⟩
            · go_wp2
              go_meet
              case rel => exact ⟨by unfold ptrAt; rw [if_neg hj0], rfl⟩
          case rest =>
            obtain ⟨rfl, rfl⟩ := hcut
            rename World => wm
            go_wp2_with fail
            obtain ⟨i0, hi0, hz0, hz1, hz2⟩ := info_parts info3
            go_loopw [10, 11, 12] (fun u v c wr => ∃ a : Nat, a ≤ j ∧ c = .int .i64 a ∧ Two wr wm.heap.size u v (fsts (exTo TG a)) (snds (exTo TG a)) ∧ Below wm.heap.size wm wr) (fun _ _ c _ => j - (intOf c).toNat)
            case atStart => exact ⟨0, Nat.zero_le _, rfl, two_nil _ _, Below.refl _ _⟩
            case round =>
              rename World => wo
              obtain ⟨a, ha, rfl, htwo, hbel⟩ := hrel
              have H2 : Hid (Two wo wm.heap.size u10 u11 (fsts (exTo TG a)) (snds (exTo TG a)) ∧ Below wm.heap.size wm wo) := ⟨htwo, hbel⟩
              clear htwo hbel
              by_cases hlta : a < j
              · have hda : decide ((a : Int) < (j : Int)) = true := by simp; omega
                go_wp2_with fail
                go_loopw [10, 11, 13] (fun u v c wr => ∃ k : Nat, k ≤ 8 ∧ c = .int .i64 k ∧ Two wr wm.heap.size u v (fsts (pre TG a k)) (snds (pre TG a k)) ∧ Below wm.heap.size wm wr) (fun _ _ c _ => 8 - (intOf c).toNat)
                case atStart => exact ⟨0, by omega, rfl, by rw [pre_zero]; exact H2.out.1, H2.out.2⟩
                case round =>
                  obtain ⟨k, hk, rfl, htwo, hbel⟩ := hrel
                  clear H2
                  by_cases hltk : k < 8
                  · obtain ⟨e0, hsb⟩ := HT.out.at_ (by omega)
                    obtain ⟨hc0, hg0, hg255⟩ := HT.out.tag a k hlta hltk
                    have hwz := HD.out.below.size
                    have hct := ((hbel.cell (p := ⟨sb, so + a * 8 + k, none⟩) (by show sb < _; omega)).trans (HD.out.below.cell (p := ⟨sb, so + a * 8 + k, none⟩) hsb)).trans hc0
                    have H3 : Hid (Two wr wm.heap.size u10 u11 (fsts (pre TG a k)) (snds (pre TG a k)) ∧ Below wm.heap.size wm wr) := ⟨htwo, hbel⟩
                    have hpl := pre_len TG a k
                    have hpf : (fsts (pre TG a k)).length ≤ 8 * a + k := by rw [fsts_len]; exact hpl
                    have hps : (snds (pre TG a k)).length ≤ 8 * a + k := by rw [snds_len]; exact hpl
                    clear hc0 htwo hbel hpl
                    subst e0
                    by_cases htag : 2 ≤ TG a k
                    · go_wp2_with (first
                        | (at_builtin; refine wpList_append_own_at _ rfl (.tmp 96) (.tmp 98) 65 rfl wm.heap.size 3 i0 (.int .i64 0) 1 8 Yba.underlying65 hi0 hz0 hz1 hz2 rfl (by decide) _ _ _ rfl (H3.out.1.fst.alloc _) ⟨wr.heap.size, 0, none⟩ 1 1 [.int .i64 a] rfl rfl (cell_one_new _ _ _) (by simp [Value.oneCell']) (by unfold maxLen; omega) (by omega) (by have := H3.out.2.size; simp; omega) ?_; intro u' w1 hown1 hg1 _ hl1; have H4 : Hid _ := H3.out.1.left hg1 hown1 hl1; have hb1 : Below wm.heap.size wm w1 := (H3.out.2.alloc H3.out.2.size _).grown hg1 (by have := H3.out.2.size; simp; omega) (fun q e => (H3.out.1.fst.lt q e).1))
                        | (at_builtin; refine wpList_append_own_at _ rfl (.tmp 100) (.tmp 102) 65 rfl wm.heap.size 3 i0 (.int .i64 0) 1 8 Yba.underlying65 hi0 hz0 hz1 hz2 rfl (by decide) _ _ _ rfl (H4.out.snd.alloc _) ⟨w1.heap.size, 0, none⟩ 1 1 [.int .i64 k] rfl rfl (cell_one_new _ _ _) (by simp [Value.oneCell']) (by unfold maxLen; omega) (by omega) (by have := hb1.size; simp; omega) ?_; intro v' w2 hown2 hg2 _ hl2; have H5 : Hid _ := H4.out.right hg2 hown2 hl2; have hb2 : Below wm.heap.size wm w2 := (hb1.alloc hb1.size _).grown hg2 (by have := hb1.size; simp; omega) (fun q e => (H4.out.snd.lt q e).1)))
                      refine ⟨⟨k + 1, by omega, by go_num, ?_, hb2⟩, by simp [intOf]; omega⟩
                      rw [pre_hit TG a k htag, fsts_snoc, snds_snoc]
                      exact H5.out
                    · go_wp2_with fail
                      refine ⟨⟨k + 1, by omega, by go_num, ?_, H3.out.2⟩, by simp [intOf]; omega⟩
                      rw [pre_miss TG a k htag]
                      exact H3.out.1
                  · have ek : k = 8 := by omega
                    subst ek
                    go_wp2_with fail
                    exact ⟨⟨a + 1, by omega, by go_num, htwo, hbel⟩, by simp [intOf]; omega⟩
              · have ea : a = j := by omega
                subst ea
                obtain ⟨a10, c10, e10⟩ := owns_shape H2.out.1.fst
                obtain ⟨a11, c11, e11⟩ := owns_shape H2.out.1.snd
                rw [fsts_len] at e10
                rw [snds_len] at e11
                subst e10
                subst e11
                have hel := exTo_len TG a
                have hbox := cell_of (o := 0) (v := .int .u16 lim) ((H2.out.2.block _ (by have := HD.out.size; omega)).trans HD.out.box) rfl
                go_upto_region 30 with (fail)
                go_cut [113] (fun v wc' => v = .bool (decide (0 < lim ∧ lim < (exTo TG a).length)) ∧ wc' = wo)
                case first =>
                  by_cases h0 : 0 < lim
                  · have hd0 : decide ((0 : Int) < (lim : Int)) = true := by simp; omega
                    go_wp2_with fail
                    go_meet
                    case rel => exact ⟨by congr 1; simp; omega, rfl⟩
                  · have hd0 : decide ((0 : Int) < (lim : Int)) = false := by simp; omega
                    go_wp2_with fail
                    go_meet
                    case rel => exact ⟨by congr 1; simp; omega, rfl⟩
                case rest =>
                  obtain ⟨rfl, rfl⟩ := hcut
                  go_upto_if 113 with (fail)
                  go_cut [14] (fun v wc' => v = .int .i64 (wantN lim (exTo TG a).length) ∧ wc' = wc)
                  case first =>
                    by_cases h0 : 0 < lim ∧ lim < (exTo TG a).length
                    · have hd0 : decide (0 < lim ∧ lim < (exTo TG a).length) = true := by simpa using h0
                      go_wp2_with fail
                      go_meet
                      case rel => exact ⟨by unfold wantN; rw [if_pos h0], rfl⟩
                    · have hd0 : decide (0 < lim ∧ lim < (exTo TG a).length) = false := by simpa using h0
                      go_wp2_with fail
                      go_meet
                      case rel => exact ⟨by unfold wantN; rw [if_neg h0], rfl⟩
                  case rest =>
                    obtain ⟨rfl, rfl⟩ := hcut
                    rename World => wt
                    go_step
                    exact tail2 hn hl HT.out HD.out H2.out.2 H2.out.1
end Go.Proofs.Ybulkeaqa
