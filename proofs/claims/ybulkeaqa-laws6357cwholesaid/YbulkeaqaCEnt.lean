/- LawS6357CWhole: the iterator (21). -/
import Derived.Test.YbulkeaqaCSeq
import Derived.Deep.DeepCutAuto
namespace Go.Proofs.Ybulkeaqa
open Go.RowKit
set_option linter.unusedSimpArgs false

def ptrs (c : Nat) (l : List (Nat × Nat)) : List Value := l.map fun x => Value.pointer (some ⟨c + x.1, 0, none⟩)
theorem ptrs_snoc (c : Nat) (l : List (Nat × Nat)) (x : Nat × Nat) : ptrs c (l ++ [x]) = ptrs c l ++ [Value.pointer (some ⟨c + x.1, 0, none⟩)] := by simp [ptrs]

/-- What the calls have logged in the end. -/
def got (TG : Nat → Nat → Int) (n lim : Nat) : List (Nat × Nat) := (exTo TG n).take (wantN lim (exTo TG n).length)

theorem got_all {TG : Nat → Nat → Int} {n lim : Nat} (h : lim = 0 ∨ (exTo TG n).length < lim) : exTo TG n = got TG n lim := by
  unfold got wantN
  rw [if_neg (by omega), List.take_length]
theorem got_stop {TG : Nat → Nat → Int} {n lim j i : Nat} (hj : j < n) (hi : i ≤ 8) (h : (pre TG j i).length = lim) (h0 : 0 < lim) : pre TG j i = got TG n lim := by
  have hp := pre_prefix TG hj hi
  have hle := hp.length_le
  have : wantN lim (exTo TG n).length = lim := by unfold wantN; split <;> omega
  unfold got
  rw [this, ← h]
  exact List.prefix_iff_eq_take.mp hp
theorem got_len (TG : Nat → Nat → Int) (n lim : Nat) : (got TG n lim).length = wantN lim (exTo TG n).length := by
  unfold got
  rw [List.length_take]
  have := wantN_le lim (exTo TG n).length
  omega
theorem got_get {TG : Nat → Nat → Int} {n lim k : Nat} (h : k < wantN lim (exTo TG n).length) : ∃ x, (got TG n lim)[k]? = some x ∧ (exTo TG n)[k]? = some x ∧ x.1 < n ∧ x.2 < 8 := by
  have hl := wantN_le lim (exTo TG n).length
  have hk : k < (exTo TG n).length := by omega
  refine ⟨(exTo TG n)[k], ?_, List.getElem?_eq_getElem hk, exTo_mem TG n _ (List.getElem_mem hk)⟩
  unfold got
  rw [List.getElem?_take, if_pos h, List.getElem?_eq_getElem hk]

/-- The chain as it lies. -/
structure Chain (W : World) (n₀ Bg Bs Bl Bb c n : Nat) (TG : Nat → Nat → Int) (lim : Nat) : Prop where
  lim : W.heap[Bl]? = some (.cells #[.int .u16 lim] 60 (0, 0))
  bl : Bl < n₀ ∧ Bl ≠ Bg ∧ Bl ≠ Bs ∧ Bl ≠ Bb
  bb : Bb < n₀ ∧ Bb ≠ Bg ∧ Bb ≠ Bs
  at_ : ∀ k, k < n → c + k < n₀ ∧ c + k ≠ Bg ∧ c + k ≠ Bs ∧ c + k ≠ Bb
  bk : ∀ k, k < n → W.heap[c + k]? = some (.cells (bktA TG k (ptrAt c n (k + 1))) 64 (0, 0))

theorem Chain.on {W W' : World} {n₀ Bg Bs Bl Bb c n lim : Nat} {TG : Nat → Nat → Int} (h : Chain W n₀ Bg Bs Bl Bb c n TG lim) (b : But n₀ (fun b => b = Bg ∨ b = Bs ∨ b = Bb) W W') : Chain W' n₀ Bg Bs Bl Bb c n TG lim :=
  ⟨(b.block Bl h.bl.1 (by have := h.bl; simp; omega)).trans h.lim, h.bl, h.bb, h.at_, fun k hk => (b.block _ (h.at_ k hk).1 (by have := h.at_ k hk; simp; omega)).trans (h.bk k hk)⟩

theorem But.more {n Bg Bs Bb : Nat} {w w' : World} (h : But n (fun b => b = Bg ∨ b = Bs) w w') : But n (fun b => b = Bg ∨ b = Bs ∨ b = Bb) w w' :=
  ⟨h.os, h.tape, h.output, h.size, fun b hb hs => h.block b hb (fun e => hs (by rcases e with e | e <;> simp [e]))⟩

theorem Logs.drew {W : World} {n Bg Bs k : Nat} {gl sl : List Value} (h : Logs W n Bg Bs k gl sl) (q : Nat) : Logs (W.drewN q) n Bg Bs k gl sl :=
  ⟨h.lg, h.ls, h.ne, h.size, by obtain ⟨v, a, b⟩ := h.g; exact ⟨v, a, b⟩, by obtain ⟨v, a, b⟩ := h.s; exact ⟨v, a, b⟩⟩
theorem Chain.drew {W : World} {n₀ Bg Bs Bl Bb c n lim : Nat} {TG : Nat → Nat → Int} (h : Chain W n₀ Bg Bs Bl Bb c n TG lim) (q : Nat) : Chain (W.drewN q) n₀ Bg Bs Bl Bb c n TG lim := ⟨h.lim, h.bl, h.bb, h.at_, h.bk⟩

theorem Logs.set {W : World} {n Bg Bs k B : Nat} {gl sl : List Value} (h : Logs W n Bg Bs k gl sl) (v : Value) (hB : B < n) (h1 : B ≠ Bg) (h2 : B ≠ Bs) : Logs (W.setCell ⟨B, 0, none⟩ v) n Bg Bs k gl sl :=
  ⟨h.lg, h.ls, h.ne, by rw [set_cell_size]; exact h.size,
   by obtain ⟨u, a, b⟩ := h.g; exact ⟨u, (Below.heap_setCell _ _ _ _ (Ne.symm h1)).trans a, set_row b hB⟩,
   by obtain ⟨u, a, b⟩ := h.s; exact ⟨u, (Below.heap_setCell _ _ _ _ (Ne.symm h2)).trans a, set_row b hB⟩⟩

/-- Everything between two rounds: at bucket j, slot i. -/
structure At (W wr : World) (n₀ Bg Bs Bl Bb c n : Nat) (TG : Nat → Nat → Int) (lim j i : Nat) : Prop where
  chain : Chain wr n₀ Bg Bs Bl Bb c n TG lim
  box : Boxed wr Bb 62 (.pointer (ptrAt c n j))
  logs : Logs wr n₀ Bg Bs (pre TG j i).length (ptrs c (pre TG j i)) (snds (pre TG j i))
  room : lim = 0 ∨ (pre TG j i).length < lim
  but : But n₀ (fun b => b = Bg ∨ b = Bs ∨ b = Bb) W wr

theorem At.next {W wr : World} {n₀ Bg Bs Bl Bb c n lim j : Nat} {TG : Nat → Nat → Int} (h : At W wr n₀ Bg Bs Bl Bb c n TG lim j 8) : At W (wr.setCell ⟨Bb, 0, none⟩ (.pointer (ptrAt c n (j + 1)))) n₀ Bg Bs Bl Bb c n TG lim (j + 1) 0 := by
  have b : But n₀ (fun b => b = Bg ∨ b = Bs ∨ b = Bb) wr (wr.setCell ⟨Bb, 0, none⟩ (.pointer (ptrAt c n (j + 1)))) := But.set 0 _ (by simp)
  refine ⟨h.chain.on b, h.box.set _, ?_, ?_, h.but.trans b⟩
  · rw [pre_zero, ← pre_all]; exact h.logs.set _ h.chain.bb.1 h.chain.bb.2.1 h.chain.bb.2.2
  · rw [pre_zero, ← pre_all]; exact h.room

theorem At.skip {W wr : World} {n₀ Bg Bs Bl Bb c n lim j i q : Nat} {TG : Nat → Nat → Int} (h : At W wr n₀ Bg Bs Bl Bb c n TG lim j i) (ht : ¬ 2 ≤ TG j i) : At W (wr.drewN q) n₀ Bg Bs Bl Bb c n TG lim j (i + 1) := by
  refine ⟨h.chain.drew q, h.box, ?_, ?_, h.but.drewN q⟩
  · rw [pre_miss TG j i ht]; exact h.logs.drew q
  · rw [pre_miss TG j i ht]; exact h.room

theorem At.hit {W wr w1 : World} {n₀ Bg Bs Bl Bb c n lim j i : Nat} {TG : Nat → Nat → Int} (h : At W wr n₀ Bg Bs Bl Bb c n TG lim j i) (ht : 2 ≤ TG j i)
    (hl : Logs w1 n₀ Bg Bs ((pre TG j i).length + 1) (ptrs c (pre TG j i) ++ [.pointer (some ⟨c + j, 0, none⟩)]) (snds (pre TG j i) ++ [.int .i64 i])) (hb : But n₀ (fun b => b = Bg ∨ b = Bs) wr w1) (hr : ((pre TG j i).length : Int) + 1 ≠ (lim : Int)) :
    At W w1 n₀ Bg Bs Bl Bb c n TG lim j (i + 1) := by
  refine ⟨h.chain.on hb.more, (hb.block Bb h.chain.bb.1 (by have := h.chain.bb; simp; omega)).trans h.box, ?_, ?_, h.but.trans hb.more⟩
  · rw [pre_hit TG j i ht, ptrs_snoc, snds_snoc, List.length_append]; exact hl
  · rw [pre_hit TG j i ht, List.length_append]; have := h.room; simp only [List.length_singleton]; omega

/-- How many buckets are left, off the box. -/
def left (c n Bb : Nat) (w : World) : Nat := match w.cell? ⟨Bb, 0, none⟩ with
  | some (.pointer (some a)) => n - (a.block - c)
  | _ => 0
theorem left_at {c n Bb j : Nat} {w : World} (h : Boxed w Bb 62 (.pointer (ptrAt c n j))) : left c n Bb w = n - j := by
  unfold left
  rw [h.cell]
  unfold ptrAt
  by_cases hj : j < n
  · simp [hj]
  · simp [hj]; omega

set_option maxHeartbeats 2000000 in
theorem entries_any (W : World) (n₀ Bg Bs Bl Bb c n lim : Nat) (TG : Nat → Nat → Int) (hn : n ≤ 65536) (hlim : lim ≤ 65535) (hA : At W W n₀ Bg Bs Bl Bb c n TG lim 0 0) (hTG : ∀ j i, j < n → i < 8 → 0 ≤ TG j i ∧ TG j i ≤ 255) :
    Calls Yba.prog 21 #[.func (.func 13) #[] #[.pointer (some ⟨Bg, 0, none⟩), .pointer (some ⟨Bs, 0, none⟩), .pointer (some ⟨Bl, 0, none⟩)], .pointer (some ⟨Bb, 0, none⟩)] W fun e W' =>
      e = .returned (.tuple #[]) ∧ Logs W' n₀ Bg Bs (got TG n lim).length (ptrs c (got TG n lim)) (snds (got TG n lim)) ∧ But n₀ (fun b => b = Bg ∨ b = Bs ∨ b = Bb) W W' := by
  have HA : Hid (At W W n₀ Bg Bs Bl Bb c n TG lim 0 0) := hA
  have HTG : Hid (∀ j i, j < n → i < 8 → 0 ≤ TG j i ∧ TG j i ≤ 255) := hTG
  clear hA hTG
  go_enter Yba.func21, Yba.ntmps21
  go_wp2_with fail
  go_loopw [] (fun wr => ∃ j : Nat, j ≤ n ∧ At W wr n₀ Bg Bs Bl Bb c n TG lim j 0) (fun wr => left c n Bb wr)
  case atStart => exact ⟨0, Nat.zero_le _, HA.out⟩
  case round =>
    rename World => wo
    obtain ⟨j, hj, hAj⟩ := hrel
    have HJ : Hid (At W wo n₀ Bg Bs Bl Bb c n TG lim j 0) := hAj
    have hbx := hAj.box.cell
    have hleft := left_at hAj.box
    clear hAj
    by_cases hlt : j < n
    · have ep : ptrAt c n j = some ⟨c + j, 0, none⟩ := by unfold ptrAt; rw [if_pos hlt]
      rw [ep] at hbx
      go_wp2_with fail
      go_loopw [14] (fun v wr => ∃ i : Nat, i ≤ 8 ∧ v = .int .i64 i ∧ At W wr n₀ Bg Bs Bl Bb c n TG lim j i) (fun v _ => 8 - (intOf v).toNat)
      case atStart => exact ⟨0, by omega, rfl, HJ.out⟩
      case round =>
        obtain ⟨i, hi, rfl, hAi⟩ := hrel
        have HI : Hid (At W wr n₀ Bg Bs Bl Bb c n TG lim j i) := hAi
        have hbx2 := hAi.box.cell
        rw [ep] at hbx2
        clear hbx HJ
        by_cases hlt2 : i < 8
        · have ht := cell_of (hAi.chain.bk j hlt) (bktA_tag _ _ _ hlt2)
          obtain ⟨ht0, ht1⟩ := HTG.out j i hlt hlt2
          have hlen := pre_len TG j i
          clear hAi
          by_cases htag : 2 ≤ TG j i
          · by_cases hstop : ((pre TG j i).length : Int) + 1 = (lim : Int)
            · go_wp2_with fail
              go_quiet (fail)
              go_wp2_with (go_at_call 13; refine (yield_any _ n₀ Bg Bs Bl (pre TG j i).length i lim _ _ _ (HI.out.logs.drew _) (HI.out.chain.drew _).lim HI.out.chain.bl.1 HI.out.chain.bl.2.1 HI.out.chain.bl.2.2.1 (by omega) hlim).mono ?_; rintro e w1 ⟨rfl, hL1, hB1⟩)
              refine bodyPost_ret (results_none rfl _ _ _) rfl ⟨rfl, ?_, HI.out.but.trans ((But.refl _ _ wr).drewN _ |>.trans hB1.more)⟩
              rw [← got_stop (lim := lim) hlt (show i + 1 ≤ 8 by omega) (by rw [pre_hit TG j i htag, List.length_append]; simp only [List.length_singleton]; omega) (by omega), pre_hit TG j i htag, ptrs_snoc, snds_snoc, List.length_append]
              exact hL1
            · have hne : ((((pre TG j i).length : Int) + 1) != (lim : Int)) = true := bne_iff_ne.mpr hstop
              go_wp2_with fail
              go_quiet (fail)
              go_wp2_with (go_at_call 13; refine (yield_any _ n₀ Bg Bs Bl (pre TG j i).length i lim _ _ _ (HI.out.logs.drew _) (HI.out.chain.drew _).lim HI.out.chain.bl.1 HI.out.chain.bl.2.1 HI.out.chain.bl.2.2.1 (by omega) hlim).mono ?_; rintro e w1 ⟨rfl, hL1, hB1⟩; rw [hne])
              exact ⟨⟨i + 1, by omega, by go_num, (show At W (wr.drewN _) n₀ Bg Bs Bl Bb c n TG lim j i from ⟨HI.out.chain.drew _, HI.out.box, HI.out.logs.drew _, HI.out.room, HI.out.but.drewN _⟩).hit htag hL1 hB1 hstop⟩, by simp [intOf]; omega⟩
          · go_wp2_with fail
            go_quiet (fail)
            go_wp2_with fail
            exact ⟨⟨i + 1, by omega, by go_num, HI.out.skip (by omega)⟩, by simp [intOf]; omega⟩
        · have e8 : i = 8 := by omega
          subst e8
          have hbk := cell_of (hAi.chain.bk j hlt) (bktA_ov _ _ _)
          have hfz := hAi.box.frozen
          go_wp2_with fail
          exact ⟨⟨j + 1, by omega, HI.out.next⟩, by rw [left_at HI.out.next.box, hleft]; omega⟩
    · have ep : ptrAt c n j = none := by unfold ptrAt; rw [if_neg hlt]
      rw [ep] at hbx
      have ej : j = n := by omega
      subst ej
      go_wp2_with fail
      have r := HJ.out.room
      have l := HJ.out.logs
      rw [pre_zero] at r l
      rw [got_all r] at l
      go_end0
      exact ⟨rfl, l, HJ.out.but⟩
end Go.Proofs.Ybulkeaqa
