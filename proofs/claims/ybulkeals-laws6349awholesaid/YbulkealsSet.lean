import Derived.Test.YbulkealsHeld
namespace Go.Proofs.Ybulkeals
open Go.RowKit Go.MapKept
set_option linter.unusedSimpArgs false

theorem rem_pre {L : Nat → List Nat} {i t : Nat} {M M' : Nat → Bool} (ht : t < (L i).length)
    (h : ∀ k ∈ L i, M k = true ∨ less L i t i k = true ∨ ∀ i', i' < 4 → less L i t i' k = false)
    (h1 : ∀ j', j' ≠ (L i)[t] → M' j' = M j') (h2 : M' (L i)[t] = true ∨ ∀ i', i' < 4 → clr (less L i t) i (L i)[t] i' (L i)[t] = false) :
    ∀ k ∈ L i, M' k = true ∨ less L i (t + 1) i k = true ∨ ∀ i', i' < 4 → less L i (t + 1) i' k = false := by
  intro k hk
  rw [← less_succ L i t ht]
  by_cases e : k = (L i)[t]
  · subst e
    rcases h2 with h2 | h2
    · exact .inl h2
    · exact .inr (.inr h2)
  · simp only [clr_other e, h1 k e]
    exact h k hk

set_option maxHeartbeats 2000000 in
theorem set_walk {w : World} {B X bh bo bm : Nat} {fo fm fh : ByteArray → Option Value} {M : Nat → Bool} {L : Nat → List Nat} {i : Nat} {l : List Nat} (h : IdxAt w B X bh bo bm fo fm (hof L) M fh) (hH : HeldAt w fh L) (hBw : B ≤ w.heap.size) (hi : i < 4)
    (a0 : Option Addr) (g0 c0 : Nat) (cur0 : Array Value) (hv0 : (fh (iS i)).getD (.slice none 0 0) = .slice a0 (L i).length c0) (ha0 : ∀ t, t < (L i).length → a0 = some ⟨g0, 0, none⟩ ∧ w.heap[g0]? = some (.cells cur0 9 (0, 0)) ∧ cur0.toList.take (L i).length = (L i).map (fun j => Value.string (kS j)))
    (hb0 : (L i).length ≤ 1048576) (hL4 : ∀ j ∈ L i, j < 4)
    (g c : Nat) (cur : Array Value) (hg : w.heap[g]? = some (.cells cur 9 (0, 0))) (hcur : cur.toList.take l.length = l.map (fun j => Value.string (kS j))) (hl4 : ∀ j ∈ l, j < 4) (hb : l.length ≤ 1048576) :
    Calls Yba.prog 6 #[.pointer (some ⟨X, 0, none⟩), .string (iS i), .slice (some ⟨g, 0, none⟩) l.length c] w fun e w' => e = .returned (.tuple #[]) ∧ (∃ M' fh', Idx w' B X (hof (setL L i l)) M' fh' ∧ HeldAt w' fh' (setL L i l)) ∧ Keep B w w' := by
  obtain ⟨hc0, hc1, hc2⟩ := cells3 h.cell
  have Hh : Hid (IdxAt w B X bh bo bm fo fm (hof L) M fh) := h
  have HH : Hid (HeldAt w fh L) := hH
  have mh := h.mh
  have Ha : Hid (∀ t, t < (L i).length → a0 = some ⟨g0, 0, none⟩ ∧ w.heap[g0]? = some (.cells cur0 9 (0, 0)) ∧ cur0.toList.take (L i).length = (L i).map (fun j => Value.string (kS j))) := ha0
  have Hg : Hid (w.heap[g]? = some (.cells cur 9 (0, 0)) ∧ cur.toList.take l.length = l.map (fun j => Value.string (kS j)) ∧ (∀ j ∈ L i, j < 4) ∧ (∀ j ∈ l, j < 4)) := ⟨hg, hcur, hL4, hl4⟩
  have Hv : Hid ((fh (iS i)).getD (.slice none 0 0) = .slice a0 (L i).length c0) := hv0
  clear h hH ha0 hg hcur hL4 hl4 hv0
  go_enter Yba.func6, Yba.ntmps6
  go_wp2_with (first
    | (at_lookup; refine wpList_lookup_m _ rfl _ _ 38 false rfl 9 23 Yba.underlying38 Yba.underlying9 (zero23 _) bh fh rfl mh (iS i) rfl (.slice a0 (L i).length c0) (by exact Hv.out) ?_))
  go_loopw [17] (fun c wr => ∃ t : Nat, t ≤ (L i).length ∧ c = .int .i64 t ∧ (∃ M', Idx wr B X (less L i t) M' fh ∧ ∀ k ∈ L i, M' k = true ∨ less L i t i k = true ∨ ∀ i', i' < 4 → less L i t i' k = false) ∧ Keep B w wr) (fun c _ => (L i).length - (intOf c).toNat)
  case atStart =>
    refine ⟨0, Nat.zero_le _, rfl, ⟨M, ?_, ?_⟩, Keep.refl _ _⟩
    · rw [less_zero]; exact ⟨bh, bo, bm, fo, fm, Hh.out⟩
    · intro k hk; rw [less_zero]; exact .inr (.inl (by simpa [hof] using hk))
  case round =>
    obtain ⟨t, ht, rfl, ⟨M1, hx, hp⟩, hk⟩ := hrel
    by_cases hlt : t < (L i).length
    · obtain ⟨e0, e1, e2⟩ := Ha.out t hlt
      have hcell := row_cell (hk.cells e1) e2 hlt
      have hm4 := Hg.out.2.2.1 _ (List.getElem_mem hlt)
      have Hpp : Hid (∀ k ∈ L i, M1 k = true ∨ less L i t i k = true ∨ ∀ i', i' < 4 → less L i t i' k = false) := hp
      clear hp e1 e2 Hh HH Ha Hv
      subst e0
      go_wp2_with (first
        | (go_at_call 12; refine (remove_any hx hi hm4 (Hpp.out _ (List.getElem_mem hlt))).mono ?_; rintro e w2 ⟨rfl, ⟨M2, hx2, hp2, hp3⟩, hk2⟩))
      go_roundw
      case rel => exact ⟨t + 1, by omega, by go_num, ⟨M2, by rw [← less_succ L i t hlt]; exact hx2, rem_pre hlt Hpp.out hp2 hp3⟩, hk.trans hk2⟩
      case measure => simp [intOf]; omega
    · have et : t = (L i).length := by omega
      have hx1 : Idx wr B X (more L i l 0) M1 fh := by rw [← less_all, ← et]; exact hx
      have hle : (L i).length ≤ t := by omega
      clear hx hp et Ha Hh
      go_wp2_with fail
      go_loopw [28] (fun c w3 => ∃ t : Nat, t ≤ l.length ∧ c = .int .i64 t ∧ (∃ M', Idx w3 B X (more L i l t) M' fh) ∧ Keep B w w3) (fun c _ => l.length - (intOf c).toNat)
      case atStart => exact ⟨0, Nat.zero_le _, rfl, ⟨M1, hx1⟩, hk⟩
      case round =>
        obtain ⟨t2, ht2, rfl, ⟨M3, hx3⟩, hk3⟩ := hrel
        have hBw3 := Nat.le_trans hBw hk3.size
        by_cases hlt : t2 < l.length
        · have hcell := row_cell (hk3.cells Hg.out.1) Hg.out.2.1 hlt
          have hm4 := Hg.out.2.2.2 _ (List.getElem_mem hlt)
          clear hx1 hk
          go_wp2_with (first
            | (go_at_call 13; refine (add_any hx3 hBw3 hi hm4).mono ?_; rintro e w2 ⟨rfl, ⟨M2, hx2⟩, hk2⟩))
          go_roundw
          case rel => exact ⟨t2 + 1, by omega, by go_num, ⟨M2, by rw [← more_succ L i l t2 hlt]; exact hx2⟩, hk3.trans hk2⟩
          case measure => simp [intOf]; omega
        · have et : t2 = l.length := by omega
          have hx4 : Idx wr B X (hof (setL L i l)) M3 fh := by rw [← more_all, ← et]; exact hx3
          have hle2 : l.length ≤ t2 := by omega
          clear hx3 hx1 hk et
          obtain ⟨bh', bo', bm', fo', fm', h4⟩ := hx4
          obtain ⟨hd0, hd1, hd2⟩ := cells3 h4.cell
          have H4 : Hid (IdxAt wr B X bh' bo' bm' fo' fm' (hof (setL L i l)) M3 fh) := h4
          have mh4 := h4.mh
          clear h4
          by_cases hz : l.length = 0
          · have hz' : ((l.length : Int) == 0) = true := by simp [hz]
            have Hz : Hid (l.length = 0) := hz
            clear hz
            go_wp2_with (first
              | (at_delete; refine wpList_delete_m _ rfl _ _ 38 9 rfl 23 Yba.underlying38 Yba.underlying9 bh' fh rfl mh4 (iS i) rfl ?_; intro w5 hm5 ht5))
            go_end0
            have hk5 := hk3.trans (Keep.turn mh4 H4.out.lh ht5)
            have el : l = [] := List.length_eq_zero_iff.1 Hz.out
            refine ⟨rfl, ⟨M3, _, ⟨bh', bo', bm', fo', fm', idx_held H4.out hm5 ht5⟩, ?_⟩, hk5⟩
            rw [el]
            exact (HH.out.keep hk5).del hi
          · have hz' : ((l.length : Int) == 0) = false := by rw [beq_eq_false_iff_ne]; omega
            clear hz
            go_wp2_with (first
              | (at_mapUpdate; refine wpList_update_m _ rfl _ _ _ 38 rfl 9 23 Yba.underlying38 Yba.underlying9 bh' fh rfl mh4 (iS i) (.slice (some ⟨g, 0, none⟩) l.length c) rfl rfl ?_; intro w5 hm5 ht5))
            go_end0
            have hk5 := hk3.trans (Keep.turn mh4 H4.out.lh ht5)
            exact ⟨rfl, ⟨M3, _, ⟨bh', bo', bm', fo', fm', idx_held H4.out hm5 ht5⟩, (HH.out.keep hk5).put hi Hg.out.2.2.2 ⟨g, c, cur, rfl, hk5.cells Hg.out.1, Hg.out.2.1⟩⟩, hk5⟩
end Go.Proofs.Ybulkeals
