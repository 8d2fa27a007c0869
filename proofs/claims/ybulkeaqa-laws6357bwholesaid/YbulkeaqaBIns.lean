/- S6357B: bucket.insert. -/
import Derived.Test.YbulkeaqaBChain
import Derived.Deep.LoopGhost
namespace Go.Proofs.Ybulkeaqa
open Go.RowKit
set_option linter.unusedSimpArgs false

set_option maxHeartbeats 2000000 in
theorem insert_room (Bh N oh : Nat) (F : Nat → Value) (ov : Nat → Nat) (es : List Ent) (e : Ent) (w : World) (hR : Row w Bh N 39 F) (hN : oh + 25 ≤ N) (hC : Chain w Bh oh F ov es) (hes : ∀ e ∈ es, e.Ok) (_hl : es.length ≤ 1000000) (t s : Nat) (hts : es.length = 8 * t + s) (hs : s < 8) (ht : t < nbk es.length) :
    Calls Yba.prog 27 #[.pointer (some ⟨Bh, oh, none⟩), .int .u8 e.t, .int .u64 e.k, .int .i64 e.v] w fun r w' => r = .returned (.bool false) ∧ ∃ q, w' = (((w.setCell ⟨blk Bh ov t, off oh t + s, none⟩ (.int .u8 e.t)).setCell ⟨blk Bh ov t, off oh t + 8 + s, none⟩ (.int .u64 e.k)).setCell ⟨blk Bh ov t, off oh t + 16 + s, none⟩ (.int .i64 e.v)).drewN q := by
  have HC : Hid _ := (⟨hR, hC, hes⟩ : _ ∧ _ ∧ _)
  clear hR hC hes
  go_enter Yba.func27, Yba.ntmps27
  go_wp2_with fail
  go_loopg [0, 8] t (fun g p ch wr => ∃ u q : Nat, u + g = t ∧ p = .pointer (some ⟨blk Bh ov u, off oh u, none⟩) ∧ ch = .bool false ∧ wr = w.drewN q)
  case atStart => exact ⟨0, 0, by omega, by simp [blk, off], rfl, rfl⟩
  case round =>
    obtain ⟨u, q, hu, rfl, rfl, ew⟩ := hrel
    rename World => wo
    have HU : Hid (u + gk = t ∧ wo = w.drewN q) := ⟨hu, ew⟩
    have hut : u ≤ t := by omega
    have hun : u < nbk es.length := by omega
    clear hu ew
    go_wp2_with fail
    go_loopw [8, 14] (fun ch v wr => ∃ i q : Nat, i ≤ 8 ∧ ch = .bool false ∧ v = .int .i64 i ∧ wr = w.drewN q ∧ 8 * u + i ≤ es.length) (fun _ v _ => 8 - (intOf v).toNat)
    case atStart => exact ⟨0, q, by omega, rfl, rfl, HU.out.2, by omega⟩
    case round =>
      obtain ⟨i, q2, hi, rfl, rfl, ew, hle⟩ := hrel
      have HW : Hid (wr = w.drewN q2) := ew
      have HW2 : Hid (Row wr Bh N 39 F ∧ Chain wr Bh oh F ov es) := by
        rw [ew]; exact ⟨HC.out.1.drewN q2, ⟨HC.out.2.1.head, fun t h1 h2 => (HC.out.2.1.ovs t h1 h2).drewN q2, HC.out.2.1.ne, HC.out.2.1.inj⟩⟩
      clear ew
      by_cases h8 : i < 8
      · have c0 := HW2.out.2.cell HW2.out.1 hN hun (k := i) (by omega)
        rw [bcell_t _ _ _ h8] at c0
        by_cases hin : 8 * u + i < es.length
        · obtain ⟨b1, b2⟩ := tg_in HC.out.2.2 hin
          have hb : (((tg es (8 * u + i) : Nat) : Int) == 0) = false := by simp; omega
          generalize tg es (8 * u + i) = tt at c0 b1 b2 hb
          generalize blk Bh ov u = bb at c0 ⊢
          generalize off oh u = oo at c0 ⊢
          go_wp2_with fail
          go_quiet (fail)
          go_wp2_with fail
          exact ⟨⟨i + 1, q2 + nq, by omega, by trivial, by go_num, by rw [HW.out]; simp [World.drewN_drewN], by omega⟩, by simp [intOf]; omega⟩
        · have eu : u = t := by omega
          have ei : i = s := by omega
          subst eu ei
          have f0 := HW2.out.2.frozen HW2.out.1 (k := off oh u + i) hun
          have f1 := HW2.out.2.frozen HW2.out.1 (k := off oh u + 8 + i) hun
          have f2 := HW2.out.2.frozen HW2.out.1 (k := off oh u + 16 + i) hun
          have c1 := HW2.out.2.cell HW2.out.1 hN hun (k := 8 + i) (by omega)
          have c2 := HW2.out.2.cell HW2.out.1 hN hun (k := 16 + i) (by omega)
          rw [bcell_k _ _ _ h8, ← Nat.add_assoc] at c1
          rw [bcell_v _ _ _ h8, ← Nat.add_assoc] at c2
          rw [(tg_past (show es.length ≤ 8 * u + i by omega)).1] at c0
          generalize hbb : blk Bh ov u = bb at c0 c1 c2 f0 f1 f2 ⊢
          generalize hoo : off oh u = oo at c0 c1 c2 f0 f1 f2 ⊢
          have Hbb : Hid (blk Bh ov u = bb ∧ off oh u = oo) := ⟨hbb, hoo⟩
          clear hbb hoo
          have c0' : wr.cell? ⟨bb, oo + i, none⟩ = some (.int .u8 0) := c0
          clear c0
          go_wp2_with fail
          go_quiet (fail)
          go_wp2_with fail
          go_ret
          refine ⟨rfl, q2 + nq, ?_⟩
          rw [Hbb.out.1, Hbb.out.2, HW.out, World.drewN_drewN]
          rfl
      · have e8 : i = 8 := by omega
        subst e8
        have c0 := HW2.out.2.cell HW2.out.1 hN hun (k := 24) (by omega)
        have hut2 : u + 1 < nbk es.length := by omega
        rw [bcell_o] at c0
        unfold nxt at c0
        rw [if_pos hut2] at c0
        generalize hbb : blk Bh ov u = bb at c0 ⊢
        generalize hoo : off oh u = oo at c0 ⊢
        have Hbb : Hid (blk Bh ov u = bb ∧ off oh u = oo) := ⟨hbb, hoo⟩
        clear hbb hoo
        go_wp2_with fail
        have hU := HU.out.1
        go_roundg (gk - 1)
        case measure => omega
        case rel => exact ⟨u + 1, q2, by omega, by simp [blk, off], rfl, HW.out⟩

def z25 : Array Value := #[.int .u8 0, .int .u8 0, .int .u8 0, .int .u8 0, .int .u8 0, .int .u8 0, .int .u8 0, .int .u8 0, .int .u64 0, .int .u64 0, .int .u64 0, .int .u64 0, .int .u64 0, .int .u64 0, .int .u64 0, .int .u64 0, .int .i64 0, .int .i64 0, .int .i64 0, .int .i64 0, .int .i64 0, .int .i64 0, .int .i64 0, .int .i64 0, .pointer none]

set_option maxHeartbeats 4000000 in
theorem insert_full (Bh N oh : Nat) (F : Nat → Value) (ov : Nat → Nat) (es : List Ent) (e : Ent) (w : World) (hR : Row w Bh N 39 F) (hN : oh + 25 ≤ N) (hC : Chain w Bh oh F ov es) (hes : ∀ e ∈ es, e.Ok) (m : Nat) (hm : es.length = 8 * (m + 1)) :
    Calls Yba.prog 27 #[.pointer (some ⟨Bh, oh, none⟩), .int .u8 e.t, .int .u64 e.k, .int .i64 e.v] w fun r w' => r = .returned (.bool true) ∧ ∃ q, w' = (((((w.setCell ⟨blk Bh ov m, off oh m + 24, none⟩ (.pointer (some ⟨w.heap.size, 0, none⟩))).alloc (.cells z25 39)).setCell ⟨w.heap.size, 0, none⟩ (.int .u8 e.t)).setCell ⟨w.heap.size, 8, none⟩ (.int .u64 e.k)).setCell ⟨w.heap.size, 16, none⟩ (.int .i64 e.v)).drewN q := by
  have hnb : nbk es.length = m + 1 := by unfold nbk; rw [if_neg (by omega)]; omega
  have HC : Hid _ := (⟨hR, hC, hes⟩ : _ ∧ _ ∧ _)
  have Hnb : Hid _ := hnb
  clear hR hC hes hnb
  go_enter Yba.func27, Yba.ntmps27
  go_wp2_with fail
  go_loopg [0, 8] (m + 1) (fun g p ch wr => (∃ u q : Nat, u + g = m + 1 ∧ 0 < g ∧ p = .pointer (some ⟨blk Bh ov u, off oh u, none⟩) ∧ ch = .bool false ∧ wr = w.drewN q) ∨ (∃ q : Nat, g = 0 ∧ p = .pointer (some ⟨w.heap.size, 0, none⟩) ∧ ch = .bool true ∧ wr = ((w.setCell ⟨blk Bh ov m, off oh m + 24, none⟩ (.pointer (some ⟨w.heap.size, 0, none⟩))).alloc (.cells z25 39)).drewN q))
  case atStart => exact .inl ⟨0, 0, by omega, by omega, by simp [blk, off], rfl, rfl⟩
  case round =>
    rcases hrel with ⟨u, q, hu, hg, rfl, rfl, ew⟩ | ⟨q, hg, rfl, rfl, ew⟩
    · rename World => wo
      have HU : Hid (u + gk = m + 1 ∧ wo = w.drewN q) := ⟨hu, ew⟩
      have hut : u ≤ m := by omega
      have hun : u < nbk es.length := by rw [Hnb.out]; omega
      clear hu ew
      go_wp2_with fail
      go_loopw [8, 14] (fun ch v wr => ∃ i q : Nat, i ≤ 8 ∧ ch = .bool false ∧ v = .int .i64 i ∧ wr = w.drewN q) (fun _ v _ => 8 - (intOf v).toNat)
      case atStart => exact ⟨0, q, by omega, rfl, rfl, HU.out.2⟩
      case round =>
        obtain ⟨i, q2, hi, rfl, rfl, ew⟩ := hrel
        have HW : Hid (wr = w.drewN q2) := ew
        have HW2 : Hid (Row wr Bh N 39 F ∧ Chain wr Bh oh F ov es) := by
          rw [ew]; exact ⟨HC.out.1.drewN q2, ⟨HC.out.2.1.head, fun t h1 h2 => (HC.out.2.1.ovs t h1 h2).drewN q2, HC.out.2.1.ne, HC.out.2.1.inj⟩⟩
        clear ew
        by_cases h8 : i < 8
        · have c0 := HW2.out.2.cell HW2.out.1 hN hun (k := i) (by omega)
          rw [bcell_t _ _ _ h8] at c0
          obtain ⟨b1, b2⟩ := tg_in HC.out.2.2 (q := 8 * u + i) (by omega)
          have hb : (((tg es (8 * u + i) : Nat) : Int) == 0) = false := by simp; omega
          generalize tg es (8 * u + i) = tt at c0 b1 b2 hb
          generalize blk Bh ov u = bb at c0 ⊢
          generalize off oh u = oo at c0 ⊢
          go_wp2_with fail
          go_quiet (fail)
          go_wp2_with fail
          exact ⟨⟨i + 1, q2 + nq, by omega, by trivial, by go_num, by rw [HW.out]; simp [World.drewN_drewN]⟩, by simp [intOf]; omega⟩
        · have e8 : i = 8 := by omega
          subst e8
          have c0 := HW2.out.2.cell HW2.out.1 hN hun (k := 24) (by omega)
          have f0 := HW2.out.2.frozen HW2.out.1 (k := off oh u + 24) hun
          rw [bcell_o] at c0
          unfold nxt at c0
          rw [Hnb.out] at c0
          by_cases hum : u = m
          · rw [if_neg (by omega)] at c0
            subst hum
            generalize hbb : blk Bh ov u = bb at c0 f0 ⊢
            generalize hoo : off oh u = oo at c0 f0 ⊢
            have Hbb : Hid (blk Bh ov u = bb ∧ off oh u = oo) := ⟨hbb, hoo⟩
            clear hbb hoo
            have hlt := World.block_lt_of_cell? wr _ c0
            have hlt2 : bb < wr.heap.size := hlt
            have hne : ¬ bb = wr.heap.size := by omega
            go_upto_region 12 with (fail)
            have c5 : ((wr.setCell ⟨bb, oo + 24, none⟩ (.pointer (some ⟨wr.heap.size, 0, none⟩))).alloc (.cells z25 39)).cell? ⟨bb, oo + 24, none⟩ = some (.pointer (some ⟨wr.heap.size, 0, none⟩)) := by
              rw [World.cell?_alloc_past _ _ _ (by simp only [World.setCell, Array.size_modify]; exact hlt2)]
              exact World.cell?_setCell_same' _ _ _ (by rw [c0]; rfl)
            have hsz : wr.heap.size = w.heap.size := by rw [HW.out]; rfl
            have e5 : ((wr.setCell ⟨bb, oo + 24, none⟩ (.pointer (some ⟨wr.heap.size, 0, none⟩))).alloc (.cells z25 39)) = ((w.setCell ⟨blk Bh ov u, off oh u + 24, none⟩ (.pointer (some ⟨w.heap.size, 0, none⟩))).alloc (.cells z25 39)).drewN q2 := by
              rw [hsz, HW.out, Hbb.out.1, Hbb.out.2]; rfl
            rw [hsz] at c5 e5 ⊢
            have E5 : Hid _ := e5
            clear e5 c0 f0 hlt hlt2 hne
            unfold z25 at c5 E5
            generalize ((wr.setCell ⟨bb, oo + 24, none⟩ (.pointer (some ⟨w.heap.size, 0, none⟩))).alloc (.cells _ 39)) = w5 at c5 E5 ⊢
            go_wp2_with fail
            have hU := HU.out.1
            go_roundg 0
            case measure => omega
            case rel => exact .inr ⟨q2, rfl, rfl, rfl, E5.out⟩
          · rw [if_pos (by omega)] at c0
            generalize hbb : blk Bh ov u = bb at c0 f0 ⊢
            generalize hoo : off oh u = oo at c0 f0 ⊢
            have Hbb : Hid (blk Bh ov u = bb ∧ off oh u = oo) := ⟨hbb, hoo⟩
            clear hbb hoo
            go_wp2_with fail
            have hU := HU.out.1
            go_roundg (gk - 1)
            case measure => omega
            case rel => exact .inl ⟨u + 1, q2, by omega, by omega, by simp [blk, off], rfl, HW.out⟩
    · rename World => wo
      have HW : Hid (wo = ((w.setCell ⟨blk Bh ov m, off oh m + 24, none⟩ (.pointer (some ⟨w.heap.size, 0, none⟩))).alloc (.cells z25 39)).drewN q) := ew
      have hNew : Row wo w.heap.size 25 39 (fun k => z25.getD k undef) := by
        rw [ew]
        have := Row.new (w.setCell ⟨blk Bh ov m, off oh m + 24, none⟩ (.pointer (some ⟨w.heap.size, 0, none⟩))) z25 39 (fun k => z25.getD k undef) (fun k hk => by simp [Array.getD, hk])
        simp only [World.setCell, Array.size_modify] at this
        exact this.drewN q
      have HN : Hid (Row wo w.heap.size 25 39 (fun k => z25.getD k undef)) := hNew
      clear ew hNew
      go_wp2_with fail
      go_loopw [8, 14] (fun ch v wr => ch = .bool true ∧ v = .int .i64 0 ∧ wr = wo) (fun _ _ _ => 0)
      case atStart => exact ⟨rfl, rfl, rfl⟩
      case round =>
        obtain ⟨rfl, rfl, rfl⟩ := hrel
        have c0 : wr.cell? ⟨w.heap.size, 0, none⟩ = some (.int .u8 0) := HN.out.cell (by omega)
        have c1 : wr.cell? ⟨w.heap.size, 8, none⟩ = some (.int .u64 0) := HN.out.cell (by omega)
        have c2 : wr.cell? ⟨w.heap.size, 16, none⟩ = some (.int .i64 0) := HN.out.cell (by omega)
        have f0 := HN.out.frozen (k := 0)
        have f1 := HN.out.frozen (k := 8)
        have f2 := HN.out.frozen (k := 16)
        go_wp2_with fail
        go_quiet (fail)
        go_wp2_with fail
        go_ret
        refine ⟨rfl, q + nq, ?_⟩
        rw [HW.out, World.drewN_drewN]
        rfl
end Go.Proofs.Ybulkeaqa
