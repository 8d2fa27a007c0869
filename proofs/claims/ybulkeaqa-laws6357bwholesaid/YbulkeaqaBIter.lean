/- S6357B: the iterator (29), in the widest fence. -/
import Derived.Test.YbulkeaqaBRange
import Derived.Deep.LoopGhost
namespace Go.Proofs.Ybulkeaqa
open Go.RowKit Go.Shelf
set_option linter.unusedSimpArgs false
attribute [local go_sem] Oper.semAt_some

/-- The iterator's place: bucket t, or nil behind the last. -/
def ptv (Bh oh : Nat) (ov : Nat → Nat) (m t : Nat) : Value := .pointer (if t < m then some ⟨blk Bh ov t, off oh t, none⟩ else none)
theorem leastOf_eq {p : Nat → Prop} {t : Nat} (h : p t) (hu : ∀ u, p u → u = t) : leastOf p = t := hu _ (leastOf_spec ⟨t, h⟩).1
theorem ptv_inj {w : World} {Bh oh : Nat} {F : Nat → Value} {ov : Nat → Nat} {es : List Ent} (h : Chain w Bh oh F ov es) {t u : Nat} (ht : t ≤ nbk es.length) (hu : u ≤ nbk es.length) (e : ptv Bh oh ov (nbk es.length) t = ptv Bh oh ov (nbk es.length) u) : u = t := by
  unfold ptv at e
  by_cases h1 : t < nbk es.length
  · by_cases h2 : u < nbk es.length
    · rw [if_pos h1, if_pos h2] at e
      simp only [Value.pointer.injEq, Option.some.injEq, Addr.mk.injEq] at e
      have e1 := e.1
      unfold blk at e1
      by_cases t0 : t = 0
      · by_cases u0 : u = 0
        · omega
        · rw [if_pos t0, if_neg u0] at e1
          exact absurd e1.symm (h.ne u (by omega) h2)
      · by_cases u0 : u = 0
        · rw [if_neg t0, if_pos u0] at e1
          exact absurd e1 (h.ne t (by omega) h1)
        · rw [if_neg t0, if_neg u0] at e1
          exact (h.inj t u (by omega) h1 (by omega) h2 e1).symm
    · rw [if_pos h1, if_neg h2] at e; simp at e
  · by_cases h2 : u < nbk es.length
    · rw [if_neg h1, if_pos h2] at e; simp at e
    · omega

set_option maxHeartbeats 2000000 in
theorem iter_any (n l Bb Bh N oh : Nat) (F : Nat → Value) (ov : Nat → Nat) (es : List Ent) (J : Nat → World → Prop) (W : World) (hN : oh + 25 ≤ N) (hes : ∀ e ∈ es, e.Ok) (_hl : es.length ≤ 1000000)
    (hJr : ∀ q W, J q W → Row W Bh N 39 F ∧ Chain W Bh oh F ov es) (hJb : ∀ q W v, J q W → J q (W.setCell ⟨Bb, 0, none⟩ v)) (hJd : ∀ q W r, J q W → J q (W.drewN r))
    (hb : W.cell? ⟨Bb, 0, none⟩ = some (.pointer (some ⟨Bh, oh, none⟩))) (hbf : W.frozen? ⟨Bb, 0, none⟩ = false)
    (hY : ∀ q W1, q < es.length → J q W1 → YieldAt Fence.wide (n - 1) Yba.prog l #[.pointer (some ⟨blk Bh ov (q / 8), off oh (q / 8), none⟩), .int .i64 (q % 8 : Nat)] W1 fun e W' => e = .returned (.bool true) ∧ J (q + 1) W' ∧ Place Bb W1 W') (h0 : J 0 W) :
    CallsIn Fence.wide n Yba.prog 29 #[.func (.yield l) #[] #[], .pointer (some ⟨Bb, 0, none⟩)] W fun e W' => (∃ v, e = .returned v) ∧ J es.length W' := by
  have HY : Hid _ := hY
  have HJ : Hid _ := (⟨hJr, hJb, hJd, hes⟩ : _ ∧ _ ∧ _ ∧ _)
  have H0 : Hid (J 0 W ∧ W.cell? ⟨Bb, 0, none⟩ = some (.pointer (some ⟨Bh, oh, none⟩)) ∧ W.frozen? ⟨Bb, 0, none⟩ = false) := ⟨h0, hb, hbf⟩
  clear hY hJr hJb hJd hes h0 hb hbf
  refine callsIn_of_wp Yba.func29 rfl trivial ?_ rfl
  simp only [Yba.ntmps29, List.size_toArray, List.length_cons, List.length_nil, Nat.reduceAdd, Nat.reduceSub, Array.replicate_succ, Array.replicate_zero, List.push_toArray, List.append_toArray, List.nil_append, List.cons_append]
  gi_wp2
  gi_loopw [] (fun wr => ∃ t, t ≤ nbk es.length ∧ wr.cell? ⟨Bb, 0, none⟩ = some (ptv Bh oh ov (nbk es.length) t) ∧ wr.frozen? ⟨Bb, 0, none⟩ = false ∧ J (min (8 * t) es.length) wr) (fun wr => nbk es.length - leastOf (fun t => t ≤ nbk es.length ∧ wr.cell? ⟨Bb, 0, none⟩ = some (ptv Bh oh ov (nbk es.length) t)))
  case atStart => exact ⟨0, Nat.zero_le _, by rw [H0.out.2.1]; unfold ptv; rw [if_pos (nbk_pos _)]; rfl, H0.out.2.2, by simpa using H0.out.1⟩
  case round =>
    obtain ⟨t, ht, hc, hf, hj⟩ := hrel
    rename World => wo
    have HT : Hid (wo.cell? ⟨Bb, 0, none⟩ = some (ptv Bh oh ov (nbk es.length) t) ∧ J (min (8 * t) es.length) wo) := ⟨hc, hj⟩
    have hme : leastOf (fun t => t ≤ nbk es.length ∧ wo.cell? ⟨Bb, 0, none⟩ = some (ptv Bh oh ov (nbk es.length) t)) = t := leastOf_eq ⟨ht, hc⟩ (fun u hu => ptv_inj (HJ.out.1 _ _ hj).2 ht hu.1 (by have := hu.2; rw [hc] at this; simpa using this))
    have HM : Hid _ := hme
    clear hme hj
    unfold ptv at hc
    by_cases hlt : t < nbk es.length
    · rw [if_pos hlt] at hc
      generalize hbb : blk Bh ov t = bb at hc
      generalize hoo : off oh t = oo at hc
      have Hbb : Hid (blk Bh ov t = bb ∧ off oh t = oo) := ⟨hbb, hoo⟩
      clear hbb hoo
      gi_wp2
      gi_loopw [14] (fun v wr => ∃ i : Nat, i ≤ 8 ∧ v = .int .i64 i ∧ wr.cell? ⟨Bb, 0, none⟩ = some (.pointer (some ⟨bb, oo, none⟩)) ∧ wr.frozen? ⟨Bb, 0, none⟩ = false ∧ J (min (8 * t + i) es.length) wr) (fun v _ => 8 - (intOf v).toNat)
      case atStart => exact ⟨0, by omega, rfl, hc, hf, HT.out.2⟩
      case round =>
        obtain ⟨i, hi, rfl, hc2, hf2, hj2⟩ := hrel
        have HJ2 : Hid (J (min (8 * t + i) es.length) wr) := hj2
        obtain ⟨hRw, hCw⟩ := HJ.out.1 _ _ hj2
        clear hj2
        by_cases h8 : i < 8
        · have c0 := hCw.cell hRw hN hlt (k := i) (by omega)
          rw [bcell_t _ _ _ h8, Hbb.out.1, Hbb.out.2] at c0
          by_cases hin : 8 * t + i < es.length
          · obtain ⟨b1, b2⟩ := tg_in HJ.out.2.2.2 hin
            have hge : decide (2 ≤ ((tg es (8 * t + i) : Nat) : Int)) = true := by simp; omega
            have hj3 := HJ2.out
            rw [Nat.min_eq_left (by omega)] at hj3
            generalize tg es (8 * t + i) = tt at c0 b1 b2 hge
            clear hRw hCw
            have hy0 := HY.out (8 * t + i) wr.drew hin (HJ.out.2.2.1 _ _ 1 hj3)
            rw [show (8 * t + i) / 8 = t by omega, show (8 * t + i) % 8 = i by omega, Hbb.out.1, Hbb.out.2] at hy0
            obtain ⟨fn, tmps, assign, body, hy, hR⟩ := hy0
            have HR : Hid _ := hR
            clear hR hj3
            gi_wp2
            gi_region
            gi_wp2
            refine ⟨fun h => (by simp [Fence.wide] at h), RoundIn.mono HR.out ?_⟩
            rintro e W3 ⟨rfl, hj4, hp4⟩
            have HJ4 : Hid _ := (⟨hj4, hp4⟩ : _ ∧ _)
            clear hj4 hp4 hy
            gi_wp2
            refine ⟨⟨i + 1, by omega, by go_num, HJ4.out.2.1.trans hc2, HJ4.out.2.2.trans hf2, ?_⟩, by simp [intOf]; omega⟩
            rw [Nat.min_eq_left (by omega)]
            exact HJ4.out.1
          · rw [(tg_past (show es.length ≤ 8 * t + i by omega)).1] at c0
            have c0' : wr.cell? ⟨bb, oo + i, none⟩ = some (.int .u8 0) := c0
            clear hRw hCw c0
            gi_wp2
            gi_region
            gi_wp2
            refine ⟨fun _ h => (by cases h), ?_⟩
            gi_wp2
            have hj4 := HJ.out.2.2.1 _ _ 1 HJ2.out
            rw [Nat.min_eq_right (by omega)] at hj4
            refine ⟨⟨i + 1, by omega, by go_num, hc2, hf2, ?_⟩, by simp [intOf]; omega⟩
            rw [Nat.min_eq_right (by omega)]
            exact hj4
        · have e8 : i = 8 := by omega
          subst e8
          have c0 := hCw.cell hRw hN hlt (k := 24) (by omega)
          rw [bcell_o, Hbb.out.1, Hbb.out.2] at c0
          have hC8 : Hid (Chain wr Bh oh F ov es) := hCw
          clear hRw hCw
          have hnx : nxt ov es.length t = ptv Bh oh ov (nbk es.length) (t + 1) := by
            unfold nxt ptv blk off
            by_cases h : t + 1 < nbk es.length
            · rw [if_pos h, if_pos h, if_neg (by omega), if_neg (by omega)]
            · rw [if_neg h, if_neg h]
          rw [hnx] at c0
          have hpt : ∃ pa, ptv Bh oh ov (nbk es.length) (t + 1) = .pointer pa := ⟨_, rfl⟩
          obtain ⟨pa, epa⟩ := hpt
          rw [epa] at c0
          have HP : Hid _ := epa
          clear epa hnx
          gi_wp2
          have cn : (wr.setCell ⟨Bb, 0, none⟩ (.pointer pa)).cell? ⟨Bb, 0, none⟩ = some (ptv Bh oh ov (nbk es.length) (t + 1)) := by
            rw [HP.out]; exact World.cell?_setCell_same' _ _ _ (by rw [hc2]; rfl)
          go_roundw
          case rel => exact ⟨t + 1, by omega, cn, by rw [World.frozen?_setCell]; exact hf2, by rw [show 8 * (t + 1) = 8 * t + 8 by omega]; exact HJ.out.2.1 _ _ _ HJ2.out⟩
          case measure =>
            rw [HM.out, leastOf_eq (t := t + 1) ⟨by omega, cn⟩ (fun u hu => ptv_inj hC8.out (by omega) hu.1 (by have := hu.2; rw [cn] at this; simpa using this))]
            omega
    · rw [if_neg hlt] at hc
      gi_wp2
      go_end0
      have hle : es.length ≤ 8 * t := by unfold nbk at hlt; split at hlt <;> omega
      have := HT.out.2
      rw [Nat.min_eq_right hle] at this
      exact ⟨⟨_, rfl⟩, this⟩
end Go.Proofs.Ybulkeaqa
