/- S6357B: the chain builder. -/
import Derived.Test.YbulkeaqaBDone
namespace Go.Proofs.Ybulkeaqa
open Go.RowKit Go.Shelf
set_option linter.unusedSimpArgs false
attribute [local go_sem] Oper.semAt_some

/-- A slice of entries, as it is read. -/
structure Lv (w : World) (sA : Option Addr) (Bl : Nat) (es : List Ent) : Prop where
  at_ : 0 < es.length → sA = some ⟨Bl, 0, none⟩
  tag : ∀ q, q < es.length → w.cell? ⟨Bl, q * 3, none⟩ = some (.int .u8 (tg es q))
  key : ∀ q, q < es.length → w.cell? ⟨Bl, q * 3 + 1, none⟩ = some (.int .u64 (ky es q))
  val : ∀ q, q < es.length → w.cell? ⟨Bl, q * 3 + 2, none⟩ = some (.int .i64 (vl es q))
theorem Lv.on {w w' : World} {sA : Option Addr} {Bl : Nat} {es : List Ent} (h : Lv w sA Bl es) (hb : 0 < es.length → w'.heap[Bl]? = w.heap[Bl]?) : Lv w' sA Bl es :=
  ⟨h.at_, fun q hq => (World.cell?_of_block (a := ⟨Bl, _, none⟩) (hb (by omega))).trans (h.tag q hq), fun q hq => (World.cell?_of_block (a := ⟨Bl, _, none⟩) (hb (by omega))).trans (h.key q hq), fun q hq => (World.cell?_of_block (a := ⟨Bl, _, none⟩) (hb (by omega))).trans (h.val q hq)⟩
theorem Lv.lt {w : World} {sA : Option Addr} {Bl : Nat} {es : List Ent} (h : Lv w sA Bl es) (h0 : 0 < es.length) : Bl < w.heap.size := World.block_lt_of_cell? w _ (h.tag 0 h0)
theorem Lv.stay {w w' : World} {sA : Option Addr} {Bl : Nat} {es : List Ent} {n : Nat} {S : Nat → Prop} (h : Lv w sA Bl es) (hs : Stay n S w w') (hb : 0 < es.length → Bl < n ∧ ¬ S Bl) : Lv w' sA Bl es := h.on (fun h0 => hs.block Bl (hb h0).1 (hb h0).2)

theorem setCell_alloc {w : World} {b k : Nat} {v : Value} {o : Obj} (h : b < w.heap.size) : (w.alloc o).setCell ⟨b, k, none⟩ v = (w.setCell ⟨b, k, none⟩ v).alloc o := by
  have hh : ((w.alloc o).setCell ⟨b, k, none⟩ v).heap = ((w.setCell ⟨b, k, none⟩ v).alloc o).heap := by
    simp only [World.setCell, World.alloc]
    apply Array.ext_getElem?
    intro j
    simp only [Array.getElem?_modify, Array.getElem?_push, Array.size_modify]
    by_cases e : j = w.heap.size
    · subst e; rw [if_neg (by omega)]; simp
    · by_cases e2 : b = j
      · subst e2; simp [e]
      · simp [e2, e]
  simp only [World.setCell, World.alloc] at hh ⊢
  simp only [hh]

/-- Where the builder stands behind k entries. -/
structure Bld (w0 wr : World) (es : List Ent) (k : Nat) (F : Nat → Value) (ov : Nat → Nat) : Prop where
  row : Row wr (w0.heap.size + 1) 25 39 F
  res : Row wr w0.heap.size 25 39 (fun k => z25.getD k undef)
  ch : Chain wr (w0.heap.size + 1) 0 F ov (es.take k)
  hi : ∀ t, 1 ≤ t → t < nbk k → w0.heap.size + 2 ≤ ov t
  stay : Stay w0.heap.size (fun _ => False) w0 wr

theorem Bld.put {w0 wr w' : World} {es : List Ent} {k : Nat} {F F' : Nat → Value} {ov ov' : Nat → Nat} (h : Bld w0 wr es k F ov) (hk : k < es.length) (hz : w0.heap.size + 2 ≤ wr.heap.size) (p : Put wr w' (w0.heap.size + 1) 25 0 F ov (es.take k) es[k] F' ov') : Bld w0 w' es (k + 1) F' ov' := by
  have hl : (es.take k).length = k := by rw [List.length_take]; omega
  have hst : ∀ b, b < w0.heap.size + 1 → w'.heap[b]? = wr.heap[b]? := fun b hb => p.stay.block b (by omega) (by
    rintro (e | ⟨t, h1, h2, e⟩)
    · omega
    · have := h.hi t h1 (by rwa [hl] at h2); omega)
  refine ⟨p.row, (hst _ (by omega)).trans h.res, ?_, fun t h1 h2 => ?_, ⟨p.stay.os.trans h.stay.os, p.stay.tape.trans h.stay.tape, p.stay.output.trans h.stay.output, Nat.le_trans h.stay.size p.stay.size, fun b hb hs => (hst b (by omega)).trans (h.stay.block b hb hs)⟩⟩
  · rw [List.take_succ_eq_append_getElem hk]; exact p.chain
  · by_cases ht : t < nbk (es.take k).length
    · rw [p.old t ht]; exact h.hi t h1 (by rwa [hl] at ht)
    · rw [p.new t (by omega) (by rw [hl]; exact h2)]; exact hz

/-- A bucket that is ready for entry k. -/
structure Ready (w wc : World) (es : List Ent) (k Be cb co : Nat) : Prop where
  row : ∃ N G, Row wc cb N 39 G ∧ co + 25 ≤ N
  d0 : wc.cell? ⟨Be, 0, none⟩ = some (.int .u8 (tg es k))
  d1 : wc.cell? ⟨Be, 1, none⟩ = some (.int .u64 (ky es k))
  d2 : wc.cell? ⟨Be, 2, none⟩ = some (.int .i64 (vl es k))
  ne : Be ≠ cb
  size : w.heap.size + 2 ≤ wc.heap.size
  fin : ∀ q, ∃ F' ov', Bld w ((((wc.setCell ⟨cb, co + k % 8, none⟩ (.int .u8 (tg es k))).setCell ⟨cb, co + 8 + k % 8, none⟩ (.int .u64 (ky es k))).setCell ⟨cb, co + 16 + k % 8, none⟩ (.int .i64 (vl es k))).drewN q) es (k + 1) F' ov' ∧ cb = blk (w.heap.size + 1) ov' (nbk (k + 1) - 1) ∧ co = off 0 (nbk (k + 1) - 1)
theorem Bld.alloc {w0 wr : World} {es : List Ent} {k : Nat} {F : Nat → Value} {ov : Nat → Nat} (h : Bld w0 wr es k F ov) (o : Obj) : Bld w0 (wr.alloc o) es k F ov :=
  ⟨h.row.alloc o, h.res.alloc o, ⟨h.ch.head, fun t h1 h2 => (h.ch.ovs t h1 h2).alloc o, h.ch.ne, h.ch.inj⟩, h.hi, h.stay.alloc h.stay.size o⟩

theorem Bld.blk_lt {w0 wr : World} {es : List Ent} {k t : Nat} {F : Nat → Value} {ov : Nat → Nat} (h : Bld w0 wr es k F ov) (hk : k ≤ es.length) (ht : t < nbk k) : blk (w0.heap.size + 1) ov t < wr.heap.size := by
  unfold blk
  by_cases e : t = 0
  · rw [if_pos e]; exact h.row.lt
  · rw [if_neg e]; exact (h.ch.ovs t (by omega) (by rw [List.length_take, Nat.min_eq_left hk]; exact ht)).lt
theorem Bld.bucket {w0 wr : World} {es : List Ent} {k t : Nat} {F : Nat → Value} {ov : Nat → Nat} (h : Bld w0 wr es k F ov) (hk : k ≤ es.length) (ht : t < nbk k) : ∃ N G, Row wr (blk (w0.heap.size + 1) ov t) N 39 G ∧ off 0 t + 25 ≤ N := by
  unfold blk off
  by_cases e : t = 0
  · rw [if_pos e, if_pos e]; exact ⟨25, F, h.row, by omega⟩
  · rw [if_neg e, if_neg e]; exact ⟨25, _, h.ch.ovs t (by omega) (by rw [List.length_take, Nat.min_eq_left hk]; exact ht), by omega⟩
theorem Bld.over {w0 wr : World} {es : List Ent} {k : Nat} {F : Nat → Value} {ov : Nat → Nat} (h : Bld w0 wr es k F ov) (hk : k ≤ es.length) (_hf : 0 < k ∧ k % 8 = 0) (o : Obj) : (wr.alloc o).cell? ⟨blk (w0.heap.size + 1) ov (nbk k - 1), off 0 (nbk k - 1) + 24, none⟩ = some (.pointer none) ∧ (wr.alloc o).frozen? ⟨blk (w0.heap.size + 1) ov (nbk k - 1), off 0 (nbk k - 1) + 24, none⟩ = false := by
  have hp := nbk_pos k
  have hl : (es.take k).length = k := by rw [List.length_take]; omega
  have h2 := h.alloc o
  refine ⟨?_, h2.ch.frozen h2.row (by rw [hl]; omega)⟩
  have := h2.ch.cell h2.row (by omega) (t := nbk k - 1) (k := 24) (by rw [hl]; omega) (by omega)
  rw [this, bcell_o, hl]
  unfold nxt
  rw [if_neg (by omega)]

theorem bcell_one (es : List Ent) (p : Option Addr) (t k : Nat) : (bcell es (.pointer p) t k).oneCell' = true := by
  unfold bcell; split
  · rfl
  · split
    · rfl
    · split <;> rfl
theorem ready_room {w w1 : World} {es : List Ent} {k Be : Nat} {F : Nat → Value} {ov : Nat → Nat} (hB : Bld w w1 es k F ov) (hk : k < es.length) (hr : ¬ (0 < k ∧ k % 8 = 0)) (hz : w.heap.size + 2 ≤ w1.heap.size) (d0 : w1.cell? ⟨Be, 0, none⟩ = some (.int .u8 (tg es k))) (d1 : w1.cell? ⟨Be, 1, none⟩ = some (.int .u64 (ky es k))) (d2 : w1.cell? ⟨Be, 2, none⟩ = some (.int .i64 (vl es k))) (hne : Be ≠ blk (w.heap.size + 1) ov (nbk k - 1)) :
    Ready w w1 es k Be (blk (w.heap.size + 1) ov (nbk k - 1)) (off 0 (nbk k - 1)) := by
  have hl : (es.take k).length = k := by rw [List.length_take]; omega
  have ht : nbk k - 1 = k / 8 := by unfold nbk; split <;> omega
  have ht2 : nbk (k + 1) = nbk k := by unfold nbk; rw [if_neg (by omega)]; split <;> omega
  have hp := nbk_pos k
  refine ⟨hB.bucket (Nat.le_of_lt hk) (by omega), d0, d1, d2, hne, hz, fun q => ?_⟩
  obtain ⟨F', ov', p⟩ := put_room (e := es[k]) (t := k / 8) (s := k % 8) (q := q) hB.row (by omega) hB.ch (by rw [hl]; omega) (by omega) (by rw [hl]; omega) (by rw [hl]; exact ht2)
  have p2 := hB.put hk hz p
  rw [ent_at hk] at p2
  refine ⟨F', ov', ?_, ?_, by rw [ht2]⟩
  · rw [ht]; exact p2
  · rw [ht2]
    unfold blk
    by_cases e : nbk k - 1 = 0
    · rw [if_pos e, if_pos e]
    · rw [if_neg e, if_neg e]; exact (p.old _ (by rw [hl]; omega)).symm
theorem ready_full {w w1 : World} {es : List Ent} {k Be : Nat} {F : Nat → Value} {ov : Nat → Nat} (hB : Bld w w1 es k F ov) (hk : k < es.length) (hf : 0 < k ∧ k % 8 = 0) (hz : w.heap.size + 2 ≤ w1.heap.size) (d0 : w1.cell? ⟨Be, 0, none⟩ = some (.int .u8 (tg es k))) (d1 : w1.cell? ⟨Be, 1, none⟩ = some (.int .u64 (ky es k))) (d2 : w1.cell? ⟨Be, 2, none⟩ = some (.int .i64 (vl es k))) (hBe : Be < w1.heap.size) (hne : Be ≠ blk (w.heap.size + 1) ov (nbk k - 1)) :
    Ready w ((w1.alloc (.cells z25 39)).setCell ⟨blk (w.heap.size + 1) ov (nbk k - 1), off 0 (nbk k - 1) + 24, none⟩ (.pointer (some ⟨w1.heap.size, 0, none⟩))) es k Be w1.heap.size 0 := by
  have hl : (es.take k).length = k := by rw [List.length_take]; omega
  have ht : nbk k - 1 = k / 8 - 1 := by unfold nbk; split <;> omega
  have ht2 : nbk (k + 1) - 1 = k / 8 := by unfold nbk; rw [if_neg (by omega)]; omega
  have ht3 : nbk k = k / 8 := by unfold nbk; rw [if_neg (by omega)]; omega
  have hp := nbk_pos k
  have hbl := hB.blk_lt (t := nbk k - 1) (Nat.le_of_lt hk) (by omega)
  have keep : ∀ j v, w1.cell? ⟨Be, j, none⟩ = some v → ((w1.alloc (.cells z25 39)).setCell ⟨blk (w.heap.size + 1) ov (nbk k - 1), off 0 (nbk k - 1) + 24, none⟩ (.pointer (some ⟨w1.heap.size, 0, none⟩))).cell? ⟨Be, j, none⟩ = some v := fun j v h =>
    (World.cell?_of_block (a := ⟨Be, j, none⟩) ((Below.heap_setCell _ _ _ _ hne).trans ((MapKept.heap_alloc w1 _).2 Be hBe))).trans h
  have hrow := Row.new w1 z25 39 (fun j => z25.getD j undef) (fun j hj => by simp [Array.getD, hj])
  refine ⟨⟨25, _, hrow.other _ (by show w1.heap.size ≠ blk _ _ _; omega), by omega⟩, keep _ _ d0, keep _ _ d1, keep _ _ d2, by omega, by simp [World.setCell]; omega, fun q => ?_⟩
  rw [setCell_alloc hbl]
  obtain ⟨F', ov', p⟩ := put_full (e := es[k]) (m := k / 8 - 1) (q := q) hB.row (by omega) hB.ch (by rw [hl]; omega)
  have p2 := hB.put hk hz p
  rw [ent_at hk] at p2
  have hnew : ov' (k / 8) = w1.heap.size := p.new (k / 8) (by rw [hl, ht3]; omega) (by rw [hl]; have := nbk_pos (k + 1); omega)
  refine ⟨F', ov', ?_, ?_, ?_⟩
  · rw [hf.2, ht]; exact p2
  · rw [ht2]; unfold blk; rw [if_neg (by omega), hnew]
  · rw [ht2]; unfold off; rw [if_neg (by omega)]

set_option maxHeartbeats 4000000 in
set_option maxRecDepth 100000 in
theorem chain_any (es : List Ent) (hes : ∀ e ∈ es, e.Ok) (hl : es.length ≤ 1000000) (sA : Option Addr) (Bl c : Nat) (w : World) (hV : Lv w sA Bl es) :
    Calls Yba.prog 5 #[.slice sA es.length c] w fun r w' => ∃ ov, r = .returned (.agg (rowA 25 (bcell es (nxt ov es.length 0) 0))) ∧ (∀ t, 1 ≤ t → t < nbk es.length → Row w' (ov t) 25 39 (bcell es (nxt ov es.length t) t) ∧ w.heap.size ≤ ov t) ∧ (∀ t u, 1 ≤ t → t < nbk es.length → 1 ≤ u → u < nbk es.length → ov t = ov u → t = u) ∧ Stay w.heap.size (fun _ => False) w w' := by
  have HV : Hid (Lv w sA Bl es) := hV
  have HES : Hid (∀ e ∈ es, e.Ok) := hes
  clear hV hes
  go_enter Yba.func5, Yba.ntmps5
  go_wp2_with fail
  go_loopw [4, 10] (fun p v wr => ∃ (k : Nat), k ≤ es.length ∧ v = .int .i64 k ∧ w.heap.size + 2 ≤ wr.heap.size ∧ ∃ F ov, Bld w wr es k F ov ∧ p = .pointer (some ⟨blk (w.heap.size + 1) ov (nbk k - 1), off 0 (nbk k - 1), none⟩)) (fun _ v _ => es.length - (intOf v).toNat)
  case atStart =>
    have hr0 := Row.new w z25 39 (fun j => z25.getD j undef) (fun j hj => by simp [Array.getD, hj])
    have hr1 := Row.new (w.alloc (.cells z25 39)) z25 39 (fun j => z25.getD j undef) (fun j hj => by simp [Array.getD, hj])
    have hsz : (w.alloc (.cells z25 39)).heap.size = w.heap.size + 1 := by simp
    rw [hsz] at hr1
    have hsz2 : ((w.alloc (.cells z25 39)).alloc (.cells z25 39)).heap.size = w.heap.size + 2 := by simp
    refine ⟨0, Nat.zero_le _, rfl, Nat.le_of_eq hsz2.symm, _, fun _ => 0, ⟨hr1, hr0.alloc _, ⟨fun j hj => ?_, fun t h1 h2 => ?_, fun t h1 h2 => ?_, fun t u h1 h2 => ?_⟩, fun t h1 h2 => ?_, ((Stay.refl _ _ w).alloc (Nat.le_refl _) _).alloc (by simp) _⟩, rfl⟩
    · have := z25_at hj
      rw [Nat.zero_add]
      show z25.getD j undef = bcell [] (.pointer none) 0 j
      rw [Array.getElem?_toList] at this
      rw [Array.getD_eq_getD_getElem?, this]; rfl
    all_goals (simp [nbk] at h2; omega)
  case round =>
    obtain ⟨k, hk, rfl, hz, F, ov, hB, rfl⟩ := hrel
    have HB : Hid _ := hB
    by_cases hlt : k < es.length
    · have V1 := HV.out.stay hB.stay (fun h0 => ⟨HV.out.lt h0, id⟩)
      have ea := V1.at_ (by omega)
      subst ea
      have c0 := V1.tag k hlt
      have c1 := V1.key k hlt
      have c2 := V1.val k hlt
      clear hB V1
      go_upto_region 6 with (fail)
      have B1 := HB.out.alloc (.cells #[.int .u8 (tg es k : Nat), .int .u64 (ky es k : Nat), .int .i64 (vl es k : Nat)] 31)
      have E1 := Row.new wr #[.int .u8 (tg es k : Nat), .int .u64 (ky es k : Nat), .int .i64 (vl es k : Nat)] 31 (fun j => #[Value.int .u8 (tg es k : Nat), .int .u64 (ky es k : Nat), .int .i64 (vl es k : Nat)].getD j undef) (fun j hj => by
        have h9 : j < 3 := hj
        rcases (show j = 0 ∨ j = 1 ∨ j = 2 by omega) with rfl | rfl | rfl <;> rfl)
      have z1 : (wr.alloc (.cells #[.int .u8 (tg es k : Nat), .int .u64 (ky es k : Nat), .int .i64 (vl es k : Nat)] 31)).heap.size = wr.heap.size + 1 := by simp
      have d0 := E1.cell (k := 0) (by simp)
      have d1 := E1.cell (k := 1) (by simp)
      have d2 := E1.cell (k := 2) (by simp)
      generalize wr.alloc (.cells #[.int .u8 (tg es k : Nat), .int .u64 (ky es k : Nat), .int .i64 (vl es k : Nat)] 31) = w1 at B1 E1 z1 d0 d1 d2 ⊢
      have HB1 : Hid _ := B1
      clear c0 c1 c2 E1 B1
      have HZ : Hid (w1.heap.size = wr.heap.size + 1 ∧ w.heap.size + 2 ≤ wr.heap.size) := ⟨z1, hz⟩
      clear z1 hz
      go_upto_region 7 with (fail)
      go_cut [22] (fun v wc => v = .bool (decide (0 < k ∧ k % 8 = 0)) ∧ wc = w1)
      case first =>
        by_cases hk0 : k = 0
        · have hb1 : decide (0 < k) = false := decide_eq_false (by omega)
          have hb3 : ¬ 0 < k := by omega
          have HB9 : Hid (decide (0 < k ∧ k % 8 = 0) = false) := decide_eq_false (by omega)
          clear hk0
          go_wp2_with fail
          go_meet
          case rel => exact ⟨by rw [HB9.out], rfl⟩
        · have hb1 : decide (0 < k) = true := decide_eq_true (by omega)
          have hb3 : 0 < k := by omega
          have HB9 : Hid (decide (0 < k ∧ k % 8 = 0) = ((k : Int) % 8 == 0)) := by
            show _ = _
            rw [Bool.eq_iff_iff]; simp; omega
          clear hk0
          go_wp2_with fail
          go_meet
          case rel => exact ⟨by rw [HB9.out], rfl⟩
      case rest =>
        obtain ⟨rfl, rfl⟩ := hcut
        go_upto_if 22 with (fail)
        go_cut [4] (fun p wc => ∃ cb co, p = .pointer (some ⟨cb, co, none⟩) ∧ Ready w wc es k wr.heap.size cb co)
        case first =>
          have hbl := HB.out.blk_lt (t := nbk k - 1) hk (by have := nbk_pos k; omega)
          have HBE : Hid (wr.heap.size ≠ blk (w.heap.size + 1) ov (nbk k - 1)) := by show _ ≠ _; omega
          by_cases hfull : 0 < k ∧ k % 8 = 0
          · have hb : decide (0 < k ∧ k % 8 = 0) = true := decide_eq_true hfull
            have HFU : Hid (0 < k ∧ k % 8 = 0) := hfull
            have cell := HB1.out.over hk HFU.out (.cells z25 39)
            have o8 := cell.1
            have f8 := cell.2
            unfold z25 at o8 f8
            clear hfull cell hbl
            go_wp2_with fail
            go_meet
            case rel =>
              exact ⟨_, _, rfl, ready_full HB1.out hlt HFU.out (by have := HZ.out; omega) d0 d1 d2 (by have := HZ.out; omega) HBE.out⟩
          · have hb : decide (0 < k ∧ k % 8 = 0) = false := decide_eq_false hfull
            have HFU : Hid _ := hfull
            clear hfull hbl
            go_wp2_with fail
            go_meet
            case rel =>
              exact ⟨_, _, rfl, ready_room HB1.out hlt HFU.out (by have := HZ.out; omega) d0 d1 d2 HBE.out⟩
        case rest =>
          obtain ⟨cb, co, rfl, hRd⟩ := hcut
          rename World => wc
          obtain ⟨N, G, hRow, hco⟩ := hRd.row
          have HRd : Hid _ := hRd
          have hr8 : k % 8 < 8 := by omega
          have hri : (k : Int) % 8 = ((k % 8 : Nat) : Int) := rfl
          have hne := hRd.ne
          have a0 : wc.drew.cell? ⟨cb, co + k % 8, none⟩ = some (G (co + k % 8)) := hRow.drew.cell (by omega)
          have a0f : wc.drew.frozen? ⟨cb, co + k % 8, none⟩ = false := hRow.drew.frozen
          have e0 : wc.drew.cell? ⟨wr.heap.size, 0, none⟩ = some (.int .u8 (tg es k)) := hRd.d0
          rw [hri]
          have HR0 : Hid (Row wc cb N 39 G ∧ co + 25 ≤ N) := ⟨hRow, hco⟩
          generalize hr : k % 8 = r at hr8 a0 a0f ⊢
          have HR8 : Hid _ := hr
          clear hRow hco hRd hri hr d0 d1 d2
          go_upto_region 10 with (fail)
          go_region
          have R1 : Row ((wc.setCell ⟨cb, co + r, none⟩ (.int .u8 (tg es k : Nat))).drew) cb N 39 _ := (HR0.out.1.set _).drew
          have E1 : (wc.setCell ⟨cb, co + r, none⟩ (.int .u8 (tg es k : Nat))).drew.heap[wr.heap.size]? = wc.heap[wr.heap.size]? := Below.heap_setCell wc _ _ _ hne
          generalize hx1 : (wc.setCell ⟨cb, co + r, none⟩ (.int .u8 (tg es k : Nat))).drew = x1 at R1 E1 ⊢
          have HX1 : Hid _ := hx1
          have HE1 : Hid _ := E1
          have HR1 : Hid (Row x1 cb N 39 _ ∧ co + 25 ≤ N) := ⟨R1, HR0.out.2⟩
          clear hx1 E1 R1 a0 a0f e0
          have a1 : x1.drew.cell? ⟨cb, co + 8 + r, none⟩ = some _ := HR1.out.1.drew.cell (by have := HR0.out.2; omega)
          have a1f : x1.drew.frozen? ⟨cb, co + 8 + r, none⟩ = false := HR1.out.1.drew.frozen
          have e1 : x1.drew.cell? ⟨wr.heap.size, 1, none⟩ = some (.int .u64 (ky es k)) := (World.cell?_of_block (a := ⟨wr.heap.size, 1, none⟩) HE1.out).trans HRd.out.d1
          go_upto_region 11 with (fail)
          go_region
          have R2 : Row ((x1.setCell ⟨cb, co + 8 + r, none⟩ (.int .u64 (ky es k : Nat))).drew) cb N 39 _ := (HR1.out.1.set _).drew
          have E2 : (x1.setCell ⟨cb, co + 8 + r, none⟩ (.int .u64 (ky es k : Nat))).drew.heap[wr.heap.size]? = x1.heap[wr.heap.size]? := Below.heap_setCell x1 _ _ _ hne
          generalize hx2 : (x1.setCell ⟨cb, co + 8 + r, none⟩ (.int .u64 (ky es k : Nat))).drew = x2 at R2 E2 ⊢
          have HX2 : Hid _ := hx2
          have HE2 : Hid _ := E2
          have HR2 : Hid (Row x2 cb N 39 _ ∧ co + 25 ≤ N) := ⟨R2, HR0.out.2⟩
          clear hx2 E2 R2 a1 a1f e1
          have a2 : x2.drew.cell? ⟨cb, co + 16 + r, none⟩ = some _ := HR2.out.1.drew.cell (by have := HR0.out.2; omega)
          have a2f : x2.drew.frozen? ⟨cb, co + 16 + r, none⟩ = false := HR2.out.1.drew.frozen
          have e2 : x2.drew.cell? ⟨wr.heap.size, 2, none⟩ = some (.int .i64 (vl es k)) := (World.cell?_of_block (a := ⟨wr.heap.size, 2, none⟩) (HE2.out.trans HE1.out)).trans HRd.out.d2
          go_upto_region 12 with (fail)
          go_region
          have R3 : Row ((x2.setCell ⟨cb, co + 16 + r, none⟩ (.int .i64 (vl es k : Nat))).drew) cb N 39 _ := (HR2.out.1.set _).drew
          have E3 : (x2.setCell ⟨cb, co + 16 + r, none⟩ (.int .i64 (vl es k : Nat))).drew.heap[wr.heap.size]? = x2.heap[wr.heap.size]? := Below.heap_setCell x2 _ _ _ hne
          generalize hx3 : (x2.setCell ⟨cb, co + 16 + r, none⟩ (.int .i64 (vl es k : Nat))).drew = x3 at R3 E3 ⊢
          have HX3 : Hid _ := hx3
          have HE3 : Hid _ := E3
          have HR3 : Hid (Row x3 cb N 39 _ ∧ co + 25 ≤ N) := ⟨R3, HR0.out.2⟩
          clear hx3 E3 R3 a2 a2f e2
          go_wp2_with fail
          obtain ⟨F', ov', hB', hcb, hcoo⟩ := HRd.out.fin 3
          have hx : ((((wc.setCell ⟨cb, co + k % 8, none⟩ (.int .u8 (tg es k))).setCell ⟨cb, co + 8 + k % 8, none⟩ (.int .u64 (ky es k))).setCell ⟨cb, co + 16 + k % 8, none⟩ (.int .i64 (vl es k))).drewN 3) = x3 := by
            rw [HR8.out, ← HX3.out, ← HX2.out, ← HX1.out]; rfl
          rw [hx] at hB'
          refine ⟨⟨k + 1, by omega, by go_num, ?_, F', ov', hB', by rw [← hcb, ← hcoo]⟩, by simp [intOf]; omega⟩
          have hs := HRd.out.size
          rw [← hx]
          show w.heap.size + 2 ≤ ((((wc.setCell ⟨cb, co + k % 8, none⟩ (.int .u8 (tg es k))).setCell ⟨cb, co + 8 + k % 8, none⟩ (.int .u64 (ky es k))).setCell ⟨cb, co + 16 + k % 8, none⟩ (.int .i64 (vl es k)))).heap.size
          simp only [World.setCell, Array.size_modify]
          exact hs
    · have ek : k = es.length := by omega
      subst ek
      have htk : es.take es.length = es := List.take_length
      have hC := hB.ch
      rw [htk] at hC
      have hGr : Row wr (w.heap.size + 1) 25 39 (bcell es (nxt ov es.length 0) 0) := hB.row.congr (fun k hk => by have := hC.head k hk; rwa [Nat.zero_add] at this)
      have HR : Hid (Row wr (w.heap.size + 1) 25 39 (bcell es (nxt ov es.length 0) 0) ∧ Row wr w.heap.size 25 39 (fun k => z25.getD k undef) ∧ (∀ t, 1 ≤ t → t < nbk es.length → Row wr (ov t) 25 39 (bcell es (nxt ov es.length t) t) ∧ w.heap.size + 2 ≤ ov t) ∧ (∀ t u, 1 ≤ t → t < nbk es.length → 1 ≤ u → u < nbk es.length → ov t = ov u → t = u) ∧ Stay w.heap.size (fun _ => False) w wr) := ⟨hGr, hB.res, fun t h1 h2 => ⟨hC.ovs t h1 h2, hB.hi t h1 h2⟩, hC.inj, hB.stay⟩
      clear hC hGr htk
      have H1C : Hid ((rowA 25 (bcell es (nxt ov es.length 0) 0)).toList.toArray.all (·.oneCell') = true) := all_oneCell_toArray (fun v hv => by
        obtain ⟨j, hj⟩ := List.getElem?_of_mem hv
        rw [Array.getElem?_toList] at hj
        have hj2 : j < 25 := by
          have := (Array.getElem?_eq_some_iff.1 hj).1
          rwa [rowA_size] at this
        rw [rowA_get _ hj2] at hj
        cases hj
        exact bcell_one _ _ _ _)
      generalize hG : bcell es (nxt ov es.length 0) 0 = G at HR H1C
      have HGG : Hid _ := hG
      have hrg : wr.rangeAt (w.heap.size + 1) 0 (rowA 25 G).toList := fun j v hj => by
        rw [Array.getElem?_toList] at hj
        have hj2 : j < 25 := by
          have := (Array.getElem?_eq_some_iff.1 hj).1
          rwa [rowA_size] at this
        rw [rowA_get _ hj2] at hj
        rw [Nat.zero_add, HR.out.1.cell hj2]; exact hj
      have hth : wr.there w.heap.size 0 25 := fun j hj => ⟨by rw [Nat.zero_add, HR.out.2.1.cell hj]; rfl, HR.out.2.1.frozen⟩
      have HRG : Hid _ := hrg
      have HTH : Hid _ := hth
      clear hB hrg hth hG
      go_wp2_with (first
        | (refine wpList_load_mid rfl 39 _ rfl (w.heap.size + 1) 0 rfl (rowA 25 G).toList _ HRG.out Yba.underlying39 rfl (by simp only [Array.length_toList, rowA_size]; kernel_rfl) ?_)
        | (refine wpList_store_mid rfl 39 _ _ rfl w.heap.size 0 (rowA 25 G).toList.toArray rfl rfl (by simp only [List.size_toArray, Array.length_toList, rowA_size]; exact HTH.out) (by simp only [List.size_toArray, Array.length_toList, rowA_size]; kernel_rfl) H1C.out ?_))
      obtain ⟨hR1, hR2, hov, hin, hst⟩ := HR.out
      have hS : Stay (w.heap.size + 1) (fun b => b = w.heap.size) wr (wr.setCells w.heap.size 0 (rowA 25 G).toList) := Stay.setCells (S := fun b => b = w.heap.size) (.inr rfl) _ _ _ (Stay.refl _ _ wr)
      have hS2 : ∀ b, b ≠ w.heap.size → (wr.setCells w.heap.size 0 (rowA 25 G).toList).heap[b]? = wr.heap[b]? := fun b hb => (Stay.setCells (n := b + 1) (S := fun x => x = w.heap.size) (.inr rfl) (rowA 25 G).toList 0 wr (Stay.refl _ _ wr)).block b (by omega) hb
      have hrow : Row (wr.setCells w.heap.size 0 (rowA 25 G).toList) w.heap.size 25 39 G := (Row.setCells _ 0 _ _ hR2).congr (fun k hk => by
        have := updL_in (rowA 25 G).toList (fun k => z25.getD k undef) 0 k (G k) (by rw [Array.getElem?_toList, rowA_get _ hk])
        rwa [Nat.zero_add] at this)
      have eG := HGG.out
      subst eG
      refine bodyPost_ret (results_cell_row rfl _ _ w.heap.size 39 (rowA 25 (bcell es (nxt ov es.length 0) 0)) (0, 0) _ rfl hrow Yba.underlying39 rfl (by rw [rowA_size]; kernel_rfl)) rfl ⟨ov, rfl, fun t h1 h2 => ⟨?_, by have := (hov t h1 h2).2; omega⟩, hin, ?_⟩
      · exact (hS2 _ (by have := (hov t h1 h2).2; omega)).trans (hov t h1 h2).1
      · exact ⟨hS.os.trans hst.os, hS.tape.trans hst.tape, hS.output.trans hst.output, Nat.le_trans hst.size hS.size, fun b hb hs => (hS2 b (by omega)).trans (hst.block b hb hs)⟩
end Go.Proofs.Ybulkeaqa
