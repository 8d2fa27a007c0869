/- S6357B: the two appends of the law's loop over the keys. -/
import Derived.Test.YbulkeaqaBT5
import Derived.Test.YbulkeaqaBTab
namespace Go.Proofs.Ybulkeaqa
open Go.RowKit Go.Shelf
set_option linter.unusedSimpArgs false
attribute [local go_sem] Oper.semAt_some eql33

/-- The region of that number, found in a text. -/
noncomputable def findReg (id : Nat) : Code → Option Code
  | .region k ops b => if k = id then some (.region k ops b) else none
  | .seq x y => (findReg id x).or (findReg id y)
  | .block _ c => findReg id c
  | .loop c => findReg id c
  | .cond _ x y => (findReg id x).or (findReg id y)
  | _ => none
noncomputable def regOf (id : Nat) (c : Code) : Code := (findReg id c).getD .skip
theorem idx_facts {g : Geo} (hg : Geo.Ok { g with Bm := 0, Bc := 1, Bo := 2 }) (kq : Nat) (hk : kq < 18446744073709551616) : ∃ i0 j0 : Nat, i0 < g.oldN ∧ j0 < g.newN ∧ bits .and .u64 (kq : Int) ((g.oldN : Int) - 1) = (i0 : Int) ∧ bits .and .u64 (kq : Int) ((g.newN : Int) - 1) = (j0 : Int) ∧ IntKind.u64.wrap ((g.oldN : Int) - 1) = (g.oldN : Int) - 1 ∧ IntKind.u64.wrap ((g.newN : Int) - 1) = (g.newN : Int) - 1 ∧ wrap64 (i0 : Int) = i0 ∧ wrap64 (j0 : Int) = j0 ∧ wrap64 ((g.oldN : Int) - 1) = (g.oldN : Int) - 1 ∧ wrap64 ((g.newN : Int) - 1) = (g.newN : Int) - 1 := by
  have ho1 : g.oldN = 2 ^ g.e0 := hg.o1
  have hn1 : g.newN = 2 ^ g.e1 := hg.n1
  have ho2 : g.e0 ≤ 4 := hg.o2
  have hn2 : g.e1 ≤ 5 := hg.n2
  have ho3 : g.oldN ≤ 16 := hg.o3
  have hn3 : g.newN ≤ 32 := hg.n3
  have ho4 : 0 < g.oldN := hg.o4
  have hn4 : 0 < g.newN := hg.n4
  have hmo := and_mask kq g.e0 hk (by omega)
  have hmn := and_mask kq g.e1 hk (by omega)
  rw [← ho1] at hmo
  rw [← hn1] at hmn
  have hil : kq % g.oldN < g.oldN := Nat.mod_lt _ ho4
  have hjl : kq % g.newN < g.newN := Nat.mod_lt _ hn4
  refine ⟨kq % g.oldN, kq % g.newN, hil, hjl, hmo, hmn, ?_, ?_, ?_, ?_, ?_, ?_⟩
  · rw [IntKind.wrap_u64]; omega
  · rw [IntKind.wrap_u64]; omega
  · unfold wrap64; omega
  · unfold wrap64; omega
  · unfold wrap64; omega
  · unfold wrap64; omega
theorem tag_or (k : Nat) : ∃ t : Nat, bits .or .u8 ((k : Int) / 256 % 256) 2 = (t : Int) ∧ 2 ≤ t ∧ t ≤ 255 := by
  have ha : k / 256 % 256 < 256 := Nat.mod_lt _ (by decide)
  have hx : k / 256 % 256 ||| 2 < 2 ^ 8 := Nat.or_lt_two_pow (by omega) (by omega)
  have h1 : (BitVec.ofInt 8 ((k / 256 % 256 : Nat) : Int)).toNat = k / 256 % 256 := by
    rw [BitVec.ofInt_natCast, BitVec.toNat_ofNat]; exact Nat.mod_eq_of_lt (by omega)
  have h2 : (BitVec.ofInt 8 ((2 : Nat) : Int)).toNat = 2 := rfl
  refine ⟨k / 256 % 256 ||| 2, ?_, Nat.right_le_or, by omega⟩
  show IntKind.u8.wrap ((BitVec.ofInt 8 ((k / 256 % 256 : Nat) : Int) ||| BitVec.ofInt 8 ((2 : Nat) : Int)).toNat : Int) = _
  rw [BitVec.toNat_or, h1, h2, IntKind.wrap_u8]
  omega
theorem stay_grown {n : Nat} {S : Nat → Prop} {w w1 w2 : World} {row : Option Nat} (h : Stay n S w w1) (hg : w1.grownBy w2 row) (hn : n ≤ w1.heap.size) (hrow : ∀ k, row = some k → n ≤ k ∨ S k) : Stay n S w w2 :=
  ⟨hg.os.trans h.os, hg.tape.trans h.tape, hg.output.trans h.output, Nat.le_trans h.size hg.size, fun b hb hs => (hg.block b (by omega) (fun e => by
    rcases hrow b e.symm with q | q
    · omega
    · exact hs q)).trans (h.block b hb hs)⟩
theorem MZ.appN {z : ZG} {g : Geo} {wa w2 : World} {p : Pl} {V : Nat → Value} (h : MZ z g wa p V) {D : Nat} (hD : D < g.newN) {v' : Value} {e : Ent} (ho : w2.ownsRow z.base 31 3 v' ((p.L D).length + 1) (flat (p.L D) ++ cells3 e)) (hg : wa.grownBy w2 (V D).ownBlock) (hat : ∀ k, v'.ownBlock = some k → (V D).ownBlock = some k ∨ wa.heap.size ≤ k) :
    MZ z g (w2.setCell ⟨z.Bnl, D, none⟩ v') { p with L := setL p.L D (p.L D ++ [e]) } (upd V D v') := by
  have hk : ∀ k, (V D).ownBlock = some k → ∃ a, wa.heap[k]? = some (.cells a 31 (0, 0)) := fun k hk => (h.ls.kind (by omega) hk).2
  have hz := grown_row hg hk h.zr (by decide)
  have hm := grown_row hg hk h.mr (by decide)
  have hn := grown_row hg hk h.nr (by decide)
  have hr := grown_row hg hk h.orr (by decide)
  have hl := h.ls.append (d := D) (by omega) (by rw [LL_new hD]; exact ho) hg hat
  rw [LL_new hD, LL_setL hD] at hl
  exact ⟨hz.other _ (hz.ne hn (by decide)), hm.other _ (hm.ne hn (by decide)), hn.set _, (hr.other _ h.ne).congr (fun k _ => (upd_ne _ _ (by omega)).symm), hl.set hn (by decide) _, h.ne, by simp only [World.setCell, Array.size_modify]; exact Nat.le_trans h.bs hg.size⟩
theorem MZ.appO {z : ZG} {g : Geo} {wa w2 : World} {p : Pl} {V : Nat → Value} (h : MZ z g wa p V) {i : Nat} (hi : i < g.oldN) {v' : Value} {e : Ent} (ho : w2.ownsRow z.base 31 3 v' ((p.O i).length + 1) (flat (p.O i) ++ cells3 e)) (hg : wa.grownBy w2 (V (g.newN + i)).ownBlock) (hat : ∀ k, v'.ownBlock = some k → (V (g.newN + i)).ownBlock = some k ∨ wa.heap.size ≤ k) :
    MZ z g (w2.setCell ⟨z.Bol, i, none⟩ v') { p with O := setL p.O i (p.O i ++ [e]) } (upd V (g.newN + i) v') := by
  have hk : ∀ k, (V (g.newN + i)).ownBlock = some k → ∃ a, wa.heap[k]? = some (.cells a 31 (0, 0)) := fun k hk => (h.ls.kind (by omega) hk).2
  have hz := grown_row hg hk h.zr (by decide)
  have hm := grown_row hg hk h.mr (by decide)
  have hn := grown_row hg hk h.nr (by decide)
  have hr := grown_row hg hk h.orr (by decide)
  have hl := h.ls.append (d := g.newN + i) (by omega) (by rw [LL_old]; exact ho) hg hat
  rw [LL_old, LL_setO] at hl
  refine ⟨hz.other _ (hz.ne hr (by decide)), hm.other _ (hm.ne hr (by decide)), (hn.other _ (Ne.symm h.ne)).congr (fun k hk => (upd_ne _ _ (by omega)).symm), (hr.set _).congr (fun k _ => ?_), hl.set hr (by decide) _, h.ne, by simp only [World.setCell, Array.size_modify]; exact Nat.le_trans h.bs hg.size⟩
  unfold upd
  by_cases e : k = i
  · rw [if_pos e, if_pos (by omega)]
  · rw [if_neg e, if_neg (by omega)]

set_option maxHeartbeats 4000000 in
set_option maxRecDepth 100000 in
theorem reg28 {z : ZG} {g : Geo} {wz wx : World} {L O : Nat → List Ent} {mv : Nat → Bool} {nx : Nat} {V : Nat → Value} {Be tt kq q j0 lN cN : Nat} {sN : Option Addr} {Q : Exit → Act → World → Prop} {a0 : Act} (hz0 : Hid (a0.tmps.size = 531)) (e16_0 : a0.tmps[16]? = some (.pointer (some ⟨z.Bz, 0, none⟩))) (e22_0 : a0.tmps[22]? = some (.int .i64 (j0 : Nat))) (e20_0 : a0.tmps[20]? = some (.pointer (some ⟨Be, 0, none⟩)))
    (H3 : Hid (MZ z g wx ⟨L, O, mv, nx, 7, 0, 0⟩ V ∧ Row wx Be 3 31 (fun j => (#[.int .u8 (tt : Nat), .int .u64 (kq : Nat), .int .i64 (q : Nat)] : Array Value).getD j undef))) (HN1 : Hid (∀ j k, j < g.newN + g.oldN → (V j).ownBlock = some k → k ≠ Be)) (HST0 : Hid (Stay wz.heap.size (fun _ => False) wz wx)) (HZB : Hid (z.base = wz.heap.size ∧ wz.heap.size ≤ z.Bz ∧ wz.heap.size ≤ z.Bv ∧ wz.heap.size ≤ z.Bol ∧ wz.heap.size ≤ z.Bnl)) (hDl : j0 < g.newN) (hix : j0 < g.newN + g.oldN) (HV : Hid (V j0 = .slice sN lN cN)) (HLN : Hid ((L j0).length = lN)) (hlen : lN ≤ 65536)
    (hQ : Hid (∀ (g9 cap9 : Nat) (a' : Act) (w' : World), MZ z g w' ⟨setL L j0 (L j0 ++ [⟨tt, kq, q⟩]), O, mv, nx, 7, 0, 0⟩ (upd V j0 (.slice (some ⟨g9, 0, none⟩) (lN + 1) cap9)) → Stay wz.heap.size (fun _ => False) wz w' → a' = ((((((((((((((((a0.put (some 151) (.pointer (some ⟨z.Bz, 0, none⟩))).put (some 152) (.pointer (some ⟨z.Bz, 0, none⟩))).put (some 153) (.pointer (some ⟨z.Bz, 4, none⟩))).put (some 154) (.slice (some ⟨z.Bnl, 0, none⟩) g.newN g.newN)).put (some 155) (.int .i64 (j0 : Nat))).put (some 156) (.pointer (some ⟨z.Bz, 0, none⟩))).put (some 157) (.pointer (some ⟨z.Bz, 0, none⟩))).put (some 158) (.pointer (some ⟨z.Bz, 4, none⟩))).put (some 159) (.slice (some ⟨z.Bnl, 0, none⟩) g.newN g.newN)).put (some 160) (.int .i64 (j0 : Nat))).put (some 161) (.pointer (some ⟨z.Bnl, j0, none⟩))).put (some 163) (.agg #[.int .u8 (tt : Nat), .int .u64 (kq : Nat), .int .i64 (q : Nat)])).put (some 162) (.slice sN lN cN)).put (some 164) (.slice (some ⟨wx.heap.size, 0, none⟩) 1 1)).put (some 165) (.slice (some ⟨g9, 0, none⟩) (lN + 1) cap9)).put (some 166) (.pointer (some ⟨z.Bnl, j0, none⟩))) → Q .normal a' w')) :
    Code.wp Yba.prog (regOf 28 (bodyOf Yba.f3)) Q a0 wx := by
  have H31 : Hid (∃ i31, Yba.prog.info? 31 = some i31 ∧ i31.zero = some (.agg #[.int .u8 0, .int .u64 0, .int .i64 0]) ∧ i31.size = 3 ∧ i31.bytes = 24) := info_parts (P := Yba.prog) (t := 31) (z := .agg #[.int .u8 0, .int .u64 0, .int .i64 0]) (s := 3) (b := 24) (by kernel_rfl)
  conv => arg 2; whnf
  have hSW : (fun w' : World => w'.cell? ⟨z.Bz, 4, none⟩ = some (.slice (some ⟨z.Bnl, 0, none⟩) g.newN g.newN) ∧ w'.cell? ⟨Be, 0, none⟩ = some (.int .u8 (tt : Nat)) ∧ w'.cell? ⟨Be, 1, none⟩ = some (.int .u64 (kq : Nat)) ∧ w'.cell? ⟨Be, 2, none⟩ = some (.int .i64 (q : Nat))) wx.drew := ⟨H3.out.1.zr.cell (by omega), H3.out.2.cell (k := 0) (by omega), H3.out.2.cell (k := 1) (by omega), H3.out.2.cell (k := 2) (by omega)⟩
  have n5 : wx.drew.cell? ⟨z.Bnl, j0, none⟩ = some (.slice sN lN cN) := by
    show wx.cell? _ = _
    rw [H3.out.1.nr.cell hDl, HV.out]
  have hne5 : z.Bnl ≠ Be := H3.out.1.nr.ne H3.out.2 (by decide)
  refine wp_region_noPanic ?_
  refine wp_region_held_drew (S := (fun w' : World => w'.cell? ⟨z.Bz, 4, none⟩ = some (.slice (some ⟨z.Bnl, 0, none⟩) g.newN g.newN) ∧ w'.cell? ⟨Be, 0, none⟩ = some (.int .u8 (tt : Nat)) ∧ w'.cell? ⟨Be, 1, none⟩ = some (.int .u64 (kq : Nat)) ∧ w'.cell? ⟨Be, 2, none⟩ = some (.int .i64 (q : Nat)))) (by kernel_rfl) hSW (fun _ => ?_)
  refine wpAnyH_take (i := 0) (v := .pointer (some ⟨z.Bz, 0, none⟩)) rfl (by kernel_rfl) (by kernel_rfl) (by kernel_rfl) (fun _ _ _ h => h) (Or.inl ⟨by rfl, ?_⟩) hSW ?_
  · rintro w' ⟨k1, k2, k3, k4⟩; go_simp
  obtain ⟨a1, ha1⟩ : ∃ a1, a1 = a0.put (some 151) (.pointer (some ⟨z.Bz, 0, none⟩)) := ⟨_, rfl⟩
  refine wpAnyH_at ha1 ?_
  have hz1 : Hid (a1.tmps.size = 531) := put_size ha1 hz0.out
  have e16_1 := put_ne ha1 (by decide) e16_0
  have e22_1 := put_ne ha1 (by decide) e22_0
  have e20_1 := put_ne ha1 (by decide) e20_0
  have e151_1 := put_get ha1 (by rw [hz0.out]; decide)
  have Ha1 : Hid _ := ha1
  clear hz0 ha1 e16_0 e22_0 e20_0
  refine wpAnyH_take (i := 1) (v := .pointer (some ⟨z.Bz, 0, none⟩)) rfl (by kernel_rfl) (by kernel_rfl) (by kernel_rfl) (fun _ _ _ h => h) (Or.inl ⟨by rfl, ?_⟩) hSW ?_
  · rintro w' ⟨k1, k2, k3, k4⟩; go_simp
  obtain ⟨a2, ha2⟩ : ∃ a2, a2 = a1.put (some 152) (.pointer (some ⟨z.Bz, 0, none⟩)) := ⟨_, rfl⟩
  refine wpAnyH_at ha2 ?_
  have hz2 : Hid (a2.tmps.size = 531) := put_size ha2 hz1.out
  have e16_2 := put_ne ha2 (by decide) e16_1
  have e22_2 := put_ne ha2 (by decide) e22_1
  have e20_2 := put_ne ha2 (by decide) e20_1
  have e152_2 := put_get ha2 (by rw [hz1.out]; decide)
  have Ha2 : Hid _ := ha2
  clear hz1 ha2 e16_1 e22_1 e20_1 e151_1
  refine wpAnyH_take (i := 2) (v := .pointer (some ⟨z.Bz, 4, none⟩)) rfl (by kernel_rfl) (by kernel_rfl) (by kernel_rfl) (fun _ _ _ h => h) (Or.inl ⟨by rfl, ?_⟩) hSW ?_
  · rintro w' ⟨k1, k2, k3, k4⟩; go_simp
  obtain ⟨a3, ha3⟩ : ∃ a3, a3 = a2.put (some 153) (.pointer (some ⟨z.Bz, 4, none⟩)) := ⟨_, rfl⟩
  refine wpAnyH_at ha3 ?_
  have hz3 : Hid (a3.tmps.size = 531) := put_size ha3 hz2.out
  have e16_3 := put_ne ha3 (by decide) e16_2
  have e22_3 := put_ne ha3 (by decide) e22_2
  have e20_3 := put_ne ha3 (by decide) e20_2
  have e153_3 := put_get ha3 (by rw [hz2.out]; decide)
  have Ha3 : Hid _ := ha3
  clear hz2 ha3 e16_2 e22_2 e20_2 e152_2
  refine wpAnyH_take (i := 3) (v := .slice (some ⟨z.Bnl, 0, none⟩) g.newN g.newN) rfl (by kernel_rfl) (by kernel_rfl) (by kernel_rfl) (fun _ _ _ h => h) (Or.inl ⟨by rfl, ?_⟩) hSW ?_
  · rintro w' ⟨k1, k2, k3, k4⟩; go_simp
  obtain ⟨a4, ha4⟩ : ∃ a4, a4 = a3.put (some 154) (.slice (some ⟨z.Bnl, 0, none⟩) g.newN g.newN) := ⟨_, rfl⟩
  refine wpAnyH_at ha4 ?_
  have hz4 : Hid (a4.tmps.size = 531) := put_size ha4 hz3.out
  have e16_4 := put_ne ha4 (by decide) e16_3
  have e22_4 := put_ne ha4 (by decide) e22_3
  have e20_4 := put_ne ha4 (by decide) e20_3
  have e154_4 := put_get ha4 (by rw [hz3.out]; decide)
  have Ha4 : Hid _ := ha4
  clear hz3 ha4 e16_3 e22_3 e20_3 e153_3
  refine wpAnyH_take (i := 4) (v := .int .i64 (j0 : Nat)) rfl (by kernel_rfl) (by kernel_rfl) (by kernel_rfl) (fun _ _ _ h => h) (Or.inl ⟨by rfl, ?_⟩) hSW ?_
  · rintro w' ⟨k1, k2, k3, k4⟩; go_simp
  obtain ⟨a5, ha5⟩ : ∃ a5, a5 = a4.put (some 155) (.int .i64 (j0 : Nat)) := ⟨_, rfl⟩
  refine wpAnyH_at ha5 ?_
  have hz5 : Hid (a5.tmps.size = 531) := put_size ha5 hz4.out
  have e16_5 := put_ne ha5 (by decide) e16_4
  have e22_5 := put_ne ha5 (by decide) e22_4
  have e20_5 := put_ne ha5 (by decide) e20_4
  have e154_5 := put_ne ha5 (by decide) e154_4
  have e155_5 := put_get ha5 (by rw [hz4.out]; decide)
  have Ha5 : Hid _ := ha5
  clear hz4 ha5 e16_4 e22_4 e20_4 e154_4
  refine wpAnyH_take (i := 5) (v := .pointer (some ⟨z.Bz, 0, none⟩)) rfl (by kernel_rfl) (by kernel_rfl) (by kernel_rfl) (fun _ _ _ h => h) (Or.inl ⟨by rfl, ?_⟩) hSW ?_
  · rintro w' ⟨k1, k2, k3, k4⟩; go_simp
  obtain ⟨a6, ha6⟩ : ∃ a6, a6 = a5.put (some 156) (.pointer (some ⟨z.Bz, 0, none⟩)) := ⟨_, rfl⟩
  refine wpAnyH_at ha6 ?_
  have hz6 : Hid (a6.tmps.size = 531) := put_size ha6 hz5.out
  have e16_6 := put_ne ha6 (by decide) e16_5
  have e22_6 := put_ne ha6 (by decide) e22_5
  have e20_6 := put_ne ha6 (by decide) e20_5
  have e154_6 := put_ne ha6 (by decide) e154_5
  have e155_6 := put_ne ha6 (by decide) e155_5
  have e156_6 := put_get ha6 (by rw [hz5.out]; decide)
  have Ha6 : Hid _ := ha6
  clear hz5 ha6 e16_5 e22_5 e20_5 e154_5 e155_5
  refine wpAnyH_take (i := 6) (v := .pointer (some ⟨z.Bz, 0, none⟩)) rfl (by kernel_rfl) (by kernel_rfl) (by kernel_rfl) (fun _ _ _ h => h) (Or.inl ⟨by rfl, ?_⟩) hSW ?_
  · rintro w' ⟨k1, k2, k3, k4⟩; go_simp
  obtain ⟨a7, ha7⟩ : ∃ a7, a7 = a6.put (some 157) (.pointer (some ⟨z.Bz, 0, none⟩)) := ⟨_, rfl⟩
  refine wpAnyH_at ha7 ?_
  have hz7 : Hid (a7.tmps.size = 531) := put_size ha7 hz6.out
  have e16_7 := put_ne ha7 (by decide) e16_6
  have e22_7 := put_ne ha7 (by decide) e22_6
  have e20_7 := put_ne ha7 (by decide) e20_6
  have e154_7 := put_ne ha7 (by decide) e154_6
  have e155_7 := put_ne ha7 (by decide) e155_6
  have e157_7 := put_get ha7 (by rw [hz6.out]; decide)
  have Ha7 : Hid _ := ha7
  clear hz6 ha7 e16_6 e22_6 e20_6 e154_6 e155_6 e156_6
  refine wpAnyH_take (i := 7) (v := .pointer (some ⟨z.Bz, 4, none⟩)) rfl (by kernel_rfl) (by kernel_rfl) (by kernel_rfl) (fun _ _ _ h => h) (Or.inl ⟨by rfl, ?_⟩) hSW ?_
  · rintro w' ⟨k1, k2, k3, k4⟩; go_simp
  obtain ⟨a8, ha8⟩ : ∃ a8, a8 = a7.put (some 158) (.pointer (some ⟨z.Bz, 4, none⟩)) := ⟨_, rfl⟩
  refine wpAnyH_at ha8 ?_
  have hz8 : Hid (a8.tmps.size = 531) := put_size ha8 hz7.out
  have e16_8 := put_ne ha8 (by decide) e16_7
  have e22_8 := put_ne ha8 (by decide) e22_7
  have e20_8 := put_ne ha8 (by decide) e20_7
  have e154_8 := put_ne ha8 (by decide) e154_7
  have e155_8 := put_ne ha8 (by decide) e155_7
  have e158_8 := put_get ha8 (by rw [hz7.out]; decide)
  have Ha8 : Hid _ := ha8
  clear hz7 ha8 e16_7 e22_7 e20_7 e154_7 e155_7 e157_7
  refine wpAnyH_take (i := 8) (v := .slice (some ⟨z.Bnl, 0, none⟩) g.newN g.newN) rfl (by kernel_rfl) (by kernel_rfl) (by kernel_rfl) (fun _ _ _ h => h) (Or.inl ⟨by rfl, ?_⟩) hSW ?_
  · rintro w' ⟨k1, k2, k3, k4⟩; go_simp
  obtain ⟨a9, ha9⟩ : ∃ a9, a9 = a8.put (some 159) (.slice (some ⟨z.Bnl, 0, none⟩) g.newN g.newN) := ⟨_, rfl⟩
  refine wpAnyH_at ha9 ?_
  have hz9 : Hid (a9.tmps.size = 531) := put_size ha9 hz8.out
  have e16_9 := put_ne ha9 (by decide) e16_8
  have e22_9 := put_ne ha9 (by decide) e22_8
  have e20_9 := put_ne ha9 (by decide) e20_8
  have e154_9 := put_ne ha9 (by decide) e154_8
  have e155_9 := put_ne ha9 (by decide) e155_8
  have e159_9 := put_get ha9 (by rw [hz8.out]; decide)
  have Ha9 : Hid _ := ha9
  clear hz8 ha9 e16_8 e22_8 e20_8 e154_8 e155_8 e158_8
  refine wpAnyH_take (i := 9) (v := .int .i64 (j0 : Nat)) rfl (by kernel_rfl) (by kernel_rfl) (by kernel_rfl) (fun _ _ _ h => h) (Or.inl ⟨by rfl, ?_⟩) hSW ?_
  · rintro w' ⟨k1, k2, k3, k4⟩; go_simp
  obtain ⟨a10, ha10⟩ : ∃ a10, a10 = a9.put (some 160) (.int .i64 (j0 : Nat)) := ⟨_, rfl⟩
  refine wpAnyH_at ha10 ?_
  have hz10 : Hid (a10.tmps.size = 531) := put_size ha10 hz9.out
  have e16_10 := put_ne ha10 (by decide) e16_9
  have e22_10 := put_ne ha10 (by decide) e22_9
  have e20_10 := put_ne ha10 (by decide) e20_9
  have e154_10 := put_ne ha10 (by decide) e154_9
  have e155_10 := put_ne ha10 (by decide) e155_9
  have e159_10 := put_ne ha10 (by decide) e159_9
  have e160_10 := put_get ha10 (by rw [hz9.out]; decide)
  have Ha10 : Hid _ := ha10
  clear hz9 ha10 e16_9 e22_9 e20_9 e154_9 e155_9 e159_9
  refine wpAnyH_take (i := 10) (v := .pointer (some ⟨z.Bnl, j0, none⟩)) rfl (by kernel_rfl) (by kernel_rfl) (by kernel_rfl) (fun _ _ _ h => h) (Or.inl ⟨by rfl, ?_⟩) hSW ?_
  · rintro w' ⟨k1, k2, k3, k4⟩; go_simp
  obtain ⟨a11, ha11⟩ : ∃ a11, a11 = a10.put (some 161) (.pointer (some ⟨z.Bnl, j0, none⟩)) := ⟨_, rfl⟩
  refine wpAnyH_at ha11 ?_
  have hz11 : Hid (a11.tmps.size = 531) := put_size ha11 hz10.out
  have e20_11 := put_ne ha11 (by decide) e20_10
  have e154_11 := put_ne ha11 (by decide) e154_10
  have e155_11 := put_ne ha11 (by decide) e155_10
  have e161_11 := put_get ha11 (by rw [hz10.out]; decide)
  have Ha11 : Hid _ := ha11
  clear hz10 ha11 e16_10 e22_10 e20_10 e154_10 e155_10 e159_10 e160_10
  refine wpAnyH_take (i := 12) (v := .agg #[.int .u8 (tt : Nat), .int .u64 (kq : Nat), .int .i64 (q : Nat)]) rfl (by kernel_rfl) (by kernel_rfl) (by kernel_rfl) (fun _ _ _ h => h) (Or.inl ⟨by rfl, ?_⟩) hSW ?_
  · rintro w' ⟨k1, k2, k3, k4⟩; go_simp
  obtain ⟨a12, ha12⟩ : ∃ a12, a12 = a11.put (some 163) (.agg #[.int .u8 (tt : Nat), .int .u64 (kq : Nat), .int .i64 (q : Nat)]) := ⟨_, rfl⟩
  refine wpAnyH_at ha12 ?_
  have hz12 : Hid (a12.tmps.size = 531) := put_size ha12 hz11.out
  have e154_12 := put_ne ha12 (by decide) e154_11
  have e155_12 := put_ne ha12 (by decide) e155_11
  have e161_12 := put_ne ha12 (by decide) e161_11
  have e163_12 := put_get ha12 (by rw [hz11.out]; decide)
  have Ha12 : Hid _ := ha12
  clear hz11 ha12 e20_11 e154_11 e155_11 e161_11
  have hQA : MZ z g (wx.drew.alloc (.cells (entA ⟨tt, kq, q⟩) 31)) _ V := H3.out.1.stay (((Stay.refl _ _ wx).drewN 1).alloc (Nat.le_refl _) _)
  have hnb : (wx.drew.alloc (.cells (entA ⟨tt, kq, q⟩) 31)).heap[wx.heap.size]? = some (.cells (entA ⟨tt, kq, q⟩) 31 (0, 0)) := (MapKept.heap_alloc wx.drew _).1
  have hSA : (fun w' : World => w'.cell? ⟨z.Bz, 4, none⟩ = some (.slice (some ⟨z.Bnl, 0, none⟩) g.newN g.newN) ∧ w'.cell? ⟨Be, 0, none⟩ = some (.int .u8 (tt : Nat)) ∧ w'.cell? ⟨Be, 1, none⟩ = some (.int .u64 (kq : Nat)) ∧ w'.cell? ⟨Be, 2, none⟩ = some (.int .i64 (q : Nat))) (wx.drew.alloc (.cells (entA ⟨tt, kq, q⟩) 31)) := ⟨((Stay.refl wx.heap.size (fun _ => False) wx.drew).alloc (Nat.le_refl _) _).some hSW.1, ((Stay.refl wx.heap.size (fun _ => False) wx.drew).alloc (Nat.le_refl _) _).some hSW.2.1, ((Stay.refl wx.heap.size (fun _ => False) wx.drew).alloc (Nat.le_refl _) _).some hSW.2.2.1, ((Stay.refl wx.heap.size (fun _ => False) wx.drew).alloc (Nat.le_refl _) _).some hSW.2.2.2⟩
  have hownA : (wx.drew.alloc (.cells (entA ⟨tt, kq, q⟩) 31)).ownsRow z.base 31 3 (.slice sN lN cN) lN (flat (L j0)) := by
    have h9 := hQA.ls.own j0 hix
    rw [LL_new hDl, HV.out, HLN.out] at h9
    exact h9
  have hbsA : z.base ≤ (wx.drew.alloc (.cells (entA ⟨tt, kq, q⟩) 31)).heap.size := by have h8 := H3.out.1.bs; simp; omega
  obtain ⟨i31, hi31, hz31, hs31, hb31⟩ := H31.out
  have HQA : Hid _ := hQA
  unfold entA at hQA hnb hSA hownA hbsA
  refine wpAnyH_ready (rs := [11, 13]) (by kernel_rfl) (by simp) ?_
  refine AllReadyH.cons rfl (fun K hK => ?_) (AllReadyH.cons rfl (fun K hK => ?_) AllReadyH.nil)
  · go_simp
    refine hK.out _ _ hSW (fun _ => ?_)
    clear hK K
    obtain ⟨a13, ha13⟩ : ∃ a13, a13 = a12.put (some 162) (.slice sN lN cN) := ⟨_, rfl⟩
    refine wpAnyH_at ha13 ?_
    have hz13 : Hid (a13.tmps.size = 531) := put_size ha13 hz12.out
    have e154_13 := put_ne ha13 (by decide) e154_12
    have e155_13 := put_ne ha13 (by decide) e155_12
    have e163_13 := put_ne ha13 (by decide) e163_12
    have e162_13 := put_get ha13 (by rw [hz12.out]; decide)
    have Ha13 : Hid _ := ha13
    clear hz12 ha13 e154_12 e155_12 e161_12 e163_12
    refine wpAnyH_ready (rs := [13]) (by kernel_rfl) (by simp) ?_
    refine AllReadyH.cons rfl (fun K hK => ?_) AllReadyH.nil
    go_simp
    refine hK.out _ _ hSA (fun _ => ?_)
    clear hK K
    obtain ⟨a14, ha14⟩ : ∃ a14, a14 = a13.put (some 164) (.slice (some ⟨wx.heap.size, 0, none⟩) 1 1) := ⟨_, rfl⟩
    refine wpAnyH_at ha14 ?_
    have hz14 : Hid (a14.tmps.size = 531) := put_size ha14 hz13.out
    have e154_14 := put_ne ha14 (by decide) e154_13
    have e155_14 := put_ne ha14 (by decide) e155_13
    have e162_14 := put_ne ha14 (by decide) e162_13
    have e164_14 := put_get ha14 (by rw [hz13.out]; decide)
    have Ha14 : Hid _ := ha14
    clear hz13 ha14 e154_13 e155_13 e163_13 e162_13
    refine wpAnyH_ready (rs := [14]) (by kernel_rfl) (by simp) ?_
    refine AllReadyH.cons rfl (fun K hK => ?_) AllReadyH.nil
    refine step_append_lies _ rfl _ _ 32 rfl z.base 31 i31 _ 3 24 Yba.underlying32 hi31 hz31 hs31 hb31 rfl (by decide) (.slice sN lN cN) lN (flat (L j0)) (ev e162_14) hownA ⟨wx.heap.size, 0, none⟩ 1 1 (cells3 ⟨tt, kq, q⟩) (ev e164_14) rfl (World.news_of_block (cs := entA ⟨tt, kq, q⟩) (t := 31) (fr := (0, 0)) hnb) (by simp [cells3, Value.oneCell']) (by decide) (by have := hlen; simp only [maxLen]; omega) (by omega) hbsA _ rfl ?_
    intro g9 cap9 w2 hown2 hgrow hat hlt2
    have hk9 : ∀ k, (Value.slice sN lN cN).ownBlock = some k → ∃ a, (wx.drew.alloc (.cells (entA ⟨tt, kq, q⟩) 31)).heap[k]? = some (.cells a 31 (0, 0)) := fun k hk => (HQA.out.ls.kind (j := j0) hix (by rw [HV.out]; exact hk)).2
    have Q2 := HQA.out.appN hDl (e := ⟨tt, kq, q⟩) (v' := .slice (some ⟨g9, 0, none⟩) (lN + 1) cap9) (by show World.ownsRow _ _ _ _ _ ((L j0).length + 1) _; rw [HLN.out]; exact hown2) (by rw [HV.out]; exact hgrow) (fun k hk => by
      have e9 : g9 = k := by simpa [Value.ownBlock] using hk
      rw [HV.out, ← e9]
      rcases hat with h8 | h8
      · exact .inl h8
      · exact .inr (Nat.le_of_eq h8.symm))
    have zr2 := grown_row hgrow hk9 HQA.out.zr (by decide)
    have nr2 := grown_row hgrow hk9 HQA.out.nr (by decide)
    have hbe : w2.heap[Be]? = wx.heap[Be]? := (hgrow.block Be (by have := H3.out.2.lt; simp; omega) (fun e => by
      have h7 := HN1.out j0 Be hix (by rw [HV.out]; exact e.symm)
      exact h7 rfl)).trans ((MapKept.heap_alloc wx.drew _).2 Be H3.out.2.lt)
    have hS2 : (fun w' : World => w'.cell? ⟨z.Bz, 4, none⟩ = some (.slice (some ⟨z.Bnl, 0, none⟩) g.newN g.newN) ∧ w'.cell? ⟨Be, 0, none⟩ = some (.int .u8 (tt : Nat)) ∧ w'.cell? ⟨Be, 1, none⟩ = some (.int .u64 (kq : Nat)) ∧ w'.cell? ⟨Be, 2, none⟩ = some (.int .i64 (q : Nat))) w2 := ⟨zr2.cell (by omega), (World.cell?_of_block (a := ⟨Be, 0, none⟩) hbe).trans hSW.2.1, (World.cell?_of_block (a := ⟨Be, 1, none⟩) hbe).trans hSW.2.2.1, (World.cell?_of_block (a := ⟨Be, 2, none⟩) hbe).trans hSW.2.2.2⟩
    have nc2 := nr2.cell (k := j0) hDl
    have nf2 := nr2.frozen (k := j0)
    have hzn := zr2.ne nr2 (by decide)
    have HQ2 : Hid _ := Q2
    have HST : Hid (Stay wz.heap.size (fun _ => False) wz (w2.setCell ⟨z.Bnl, j0, none⟩ (.slice (some ⟨g9, 0, none⟩) (lN + 1) cap9))) := Stay.set (stay_grown (Stay.alloc (HST0.out.drewN 1) HST0.out.size _) hgrow (by have := HST0.out.size; simp; omega) (fun k hk => .inl (by have h6 := HQA.out.ls.low (j := j0) hix (by rw [HV.out]; exact hk); have h7 := HZB.out.1; omega))) _ (.inl HZB.out.2.2.2.2)
    refine hK.out _ _ hS2 (fun _ => ?_)
    clear hK K Q2 zr2 nr2 hk9 hbe hown2 hgrow hat hlt2 hSA n5 hnb hownA hbsA hQA hi31 hz31 hs31 hb31
    obtain ⟨a15, ha15⟩ : ∃ a15, a15 = a14.put (some 165) (.slice (some ⟨g9, 0, none⟩) (lN + 1) cap9) := ⟨_, rfl⟩
    refine wpAnyH_at ha15 ?_
    have hz15 : Hid (a15.tmps.size = 531) := put_size ha15 hz14.out
    have e154_15 := put_ne ha15 (by decide) e154_14
    have e155_15 := put_ne ha15 (by decide) e155_14
    have e165_15 := put_get ha15 (by rw [hz14.out]; decide)
    have Ha15 : Hid _ := ha15
    clear hz14 ha15 e154_14 e155_14 e162_14 e164_14
    refine wpAnyH_take (i := 15) (v := .pointer (some ⟨z.Bnl, j0, none⟩)) rfl (by kernel_rfl) (by kernel_rfl) (by kernel_rfl) (fun _ _ _ h => h) (Or.inl ⟨by rfl, ?_⟩) hS2 ?_
    · rintro w' ⟨k1, k2, k3, k4⟩; go_simp
    obtain ⟨a16, ha16⟩ : ∃ a16, a16 = a15.put (some 166) (.pointer (some ⟨z.Bnl, j0, none⟩)) := ⟨_, rfl⟩
    refine wpAnyH_at ha16 ?_
    have hz16 : Hid (a16.tmps.size = 531) := put_size ha16 hz15.out
    have e165_16 := put_ne ha16 (by decide) e165_15
    have e166_16 := put_get ha16 (by rw [hz15.out]; decide)
    have Ha16 : Hid _ := ha16
    clear hz15 ha16 e154_15 e155_15 e165_15
    refine wpAnyH_ready (rs := [16]) (by kernel_rfl) (by simp) ?_
    refine AllReadyH.cons rfl (fun K hK => ?_) AllReadyH.nil
    go_simp
    have hS3 : (fun w' : World => w'.cell? ⟨z.Bz, 4, none⟩ = some (.slice (some ⟨z.Bnl, 0, none⟩) g.newN g.newN) ∧ w'.cell? ⟨Be, 0, none⟩ = some (.int .u8 (tt : Nat)) ∧ w'.cell? ⟨Be, 1, none⟩ = some (.int .u64 (kq : Nat)) ∧ w'.cell? ⟨Be, 2, none⟩ = some (.int .i64 (q : Nat))) (w2.setCell ⟨z.Bnl, j0, none⟩ (.slice (some ⟨g9, 0, none⟩) (lN + 1) cap9)) := ⟨(World.cell?_of_block (a := ⟨z.Bz, _, none⟩) (Below.heap_setCell w2 _ _ _ hzn)).trans hS2.1, (World.cell?_of_block (a := ⟨Be, _, none⟩) (Below.heap_setCell w2 _ _ _ (Ne.symm hne5))).trans hS2.2.1, (World.cell?_of_block (a := ⟨Be, _, none⟩) (Below.heap_setCell w2 _ _ _ (Ne.symm hne5))).trans hS2.2.2.1, (World.cell?_of_block (a := ⟨Be, _, none⟩) (Below.heap_setCell w2 _ _ _ (Ne.symm hne5))).trans hS2.2.2.2⟩
    refine hK.out _ _ hS3 (fun _ => ?_)
    refine wpAnyH_done (by kernel_rfl) ?_ _
    refine NoPanic.normal ?_
    refine hQ.out g9 cap9 _ _ HQ2.out HST.out ?_
    rw [Ha16.out, Ha15.out, Ha14.out, Ha13.out, Ha12.out, Ha11.out, Ha10.out, Ha9.out, Ha8.out, Ha7.out, Ha6.out, Ha5.out, Ha4.out, Ha3.out, Ha2.out, Ha1.out]
  · go_simp
    refine hK.out _ _ hSA (fun _ => ?_)
    clear hK K
    obtain ⟨a13, ha13⟩ : ∃ a13, a13 = a12.put (some 164) (.slice (some ⟨wx.heap.size, 0, none⟩) 1 1) := ⟨_, rfl⟩
    refine wpAnyH_at ha13 ?_
    have hz13 : Hid (a13.tmps.size = 531) := put_size ha13 hz12.out
    have e154_13 := put_ne ha13 (by decide) e154_12
    have e155_13 := put_ne ha13 (by decide) e155_12
    have e161_13 := put_ne ha13 (by decide) e161_12
    have e164_13 := put_get ha13 (by rw [hz12.out]; decide)
    have Ha13 : Hid _ := ha13
    clear hz12 ha13 e154_12 e155_12 e161_12 e163_12
    have n6 : (wx.alloc (.cells #[.int .u8 (tt : Nat), .int .u64 (kq : Nat), .int .i64 (q : Nat)] 31)).drew.cell? ⟨z.Bnl, j0, none⟩ = some (.slice sN lN cN) := ((Stay.refl wx.heap.size (fun _ => False) wx.drew).alloc (Nat.le_refl _) _).some n5
    refine wpAnyH_ready (rs := [11]) (by kernel_rfl) (by simp) ?_
    refine AllReadyH.cons rfl (fun K hK => ?_) AllReadyH.nil
    go_simp
    refine hK.out _ _ hSA (fun _ => ?_)
    clear hK K n6
    obtain ⟨a14, ha14⟩ : ∃ a14, a14 = a13.put (some 162) (.slice sN lN cN) := ⟨_, rfl⟩
    refine wpAnyH_at ha14 ?_
    have hz14 : Hid (a14.tmps.size = 531) := put_size ha14 hz13.out
    have e154_14 := put_ne ha14 (by decide) e154_13
    have e155_14 := put_ne ha14 (by decide) e155_13
    have e164_14 := put_ne ha14 (by decide) e164_13
    have e162_14 := put_get ha14 (by rw [hz13.out]; decide)
    have Ha14 : Hid _ := ha14
    clear hz13 ha14 e154_13 e155_13 e161_13 e164_13
    refine wpAnyH_ready (rs := [14]) (by kernel_rfl) (by simp) ?_
    refine AllReadyH.cons rfl (fun K hK => ?_) AllReadyH.nil
    refine step_append_lies _ rfl _ _ 32 rfl z.base 31 i31 _ 3 24 Yba.underlying32 hi31 hz31 hs31 hb31 rfl (by decide) (.slice sN lN cN) lN (flat (L j0)) (ev e162_14) hownA ⟨wx.heap.size, 0, none⟩ 1 1 (cells3 ⟨tt, kq, q⟩) (ev e164_14) rfl (World.news_of_block (cs := entA ⟨tt, kq, q⟩) (t := 31) (fr := (0, 0)) hnb) (by simp [cells3, Value.oneCell']) (by decide) (by have := hlen; simp only [maxLen]; omega) (by omega) hbsA _ rfl ?_
    intro g9 cap9 w2 hown2 hgrow hat hlt2
    have hk9 : ∀ k, (Value.slice sN lN cN).ownBlock = some k → ∃ a, (wx.drew.alloc (.cells (entA ⟨tt, kq, q⟩) 31)).heap[k]? = some (.cells a 31 (0, 0)) := fun k hk => (HQA.out.ls.kind (j := j0) hix (by rw [HV.out]; exact hk)).2
    have Q2 := HQA.out.appN hDl (e := ⟨tt, kq, q⟩) (v' := .slice (some ⟨g9, 0, none⟩) (lN + 1) cap9) (by show World.ownsRow _ _ _ _ _ ((L j0).length + 1) _; rw [HLN.out]; exact hown2) (by rw [HV.out]; exact hgrow) (fun k hk => by
      have e9 : g9 = k := by simpa [Value.ownBlock] using hk
      rw [HV.out, ← e9]
      rcases hat with h8 | h8
      · exact .inl h8
      · exact .inr (Nat.le_of_eq h8.symm))
    have zr2 := grown_row hgrow hk9 HQA.out.zr (by decide)
    have nr2 := grown_row hgrow hk9 HQA.out.nr (by decide)
    have hbe : w2.heap[Be]? = wx.heap[Be]? := (hgrow.block Be (by have := H3.out.2.lt; simp; omega) (fun e => by
      have h7 := HN1.out j0 Be hix (by rw [HV.out]; exact e.symm)
      exact h7 rfl)).trans ((MapKept.heap_alloc wx.drew _).2 Be H3.out.2.lt)
    have hS2 : (fun w' : World => w'.cell? ⟨z.Bz, 4, none⟩ = some (.slice (some ⟨z.Bnl, 0, none⟩) g.newN g.newN) ∧ w'.cell? ⟨Be, 0, none⟩ = some (.int .u8 (tt : Nat)) ∧ w'.cell? ⟨Be, 1, none⟩ = some (.int .u64 (kq : Nat)) ∧ w'.cell? ⟨Be, 2, none⟩ = some (.int .i64 (q : Nat))) w2 := ⟨zr2.cell (by omega), (World.cell?_of_block (a := ⟨Be, 0, none⟩) hbe).trans hSW.2.1, (World.cell?_of_block (a := ⟨Be, 1, none⟩) hbe).trans hSW.2.2.1, (World.cell?_of_block (a := ⟨Be, 2, none⟩) hbe).trans hSW.2.2.2⟩
    have nc2 := nr2.cell (k := j0) hDl
    have nf2 := nr2.frozen (k := j0)
    have hzn := zr2.ne nr2 (by decide)
    have HQ2 : Hid _ := Q2
    have HST : Hid (Stay wz.heap.size (fun _ => False) wz (w2.setCell ⟨z.Bnl, j0, none⟩ (.slice (some ⟨g9, 0, none⟩) (lN + 1) cap9))) := Stay.set (stay_grown (Stay.alloc (HST0.out.drewN 1) HST0.out.size _) hgrow (by have := HST0.out.size; simp; omega) (fun k hk => .inl (by have h6 := HQA.out.ls.low (j := j0) hix (by rw [HV.out]; exact hk); have h7 := HZB.out.1; omega))) _ (.inl HZB.out.2.2.2.2)
    refine hK.out _ _ hS2 (fun _ => ?_)
    clear hK K Q2 zr2 nr2 hk9 hbe hown2 hgrow hat hlt2 hSA n5 hnb hownA hbsA hQA hi31 hz31 hs31 hb31
    obtain ⟨a15, ha15⟩ : ∃ a15, a15 = a14.put (some 165) (.slice (some ⟨g9, 0, none⟩) (lN + 1) cap9) := ⟨_, rfl⟩
    refine wpAnyH_at ha15 ?_
    have hz15 : Hid (a15.tmps.size = 531) := put_size ha15 hz14.out
    have e154_15 := put_ne ha15 (by decide) e154_14
    have e155_15 := put_ne ha15 (by decide) e155_14
    have e165_15 := put_get ha15 (by rw [hz14.out]; decide)
    have Ha15 : Hid _ := ha15
    clear hz14 ha15 e154_14 e155_14 e164_14 e162_14
    refine wpAnyH_take (i := 15) (v := .pointer (some ⟨z.Bnl, j0, none⟩)) rfl (by kernel_rfl) (by kernel_rfl) (by kernel_rfl) (fun _ _ _ h => h) (Or.inl ⟨by rfl, ?_⟩) hS2 ?_
    · rintro w' ⟨k1, k2, k3, k4⟩; go_simp
    obtain ⟨a16, ha16⟩ : ∃ a16, a16 = a15.put (some 166) (.pointer (some ⟨z.Bnl, j0, none⟩)) := ⟨_, rfl⟩
    refine wpAnyH_at ha16 ?_
    have hz16 : Hid (a16.tmps.size = 531) := put_size ha16 hz15.out
    have e165_16 := put_ne ha16 (by decide) e165_15
    have e166_16 := put_get ha16 (by rw [hz15.out]; decide)
    have Ha16 : Hid _ := ha16
    clear hz15 ha16 e154_15 e155_15 e165_15
    refine wpAnyH_ready (rs := [16]) (by kernel_rfl) (by simp) ?_
    refine AllReadyH.cons rfl (fun K hK => ?_) AllReadyH.nil
    go_simp
    have hS3 : (fun w' : World => w'.cell? ⟨z.Bz, 4, none⟩ = some (.slice (some ⟨z.Bnl, 0, none⟩) g.newN g.newN) ∧ w'.cell? ⟨Be, 0, none⟩ = some (.int .u8 (tt : Nat)) ∧ w'.cell? ⟨Be, 1, none⟩ = some (.int .u64 (kq : Nat)) ∧ w'.cell? ⟨Be, 2, none⟩ = some (.int .i64 (q : Nat))) (w2.setCell ⟨z.Bnl, j0, none⟩ (.slice (some ⟨g9, 0, none⟩) (lN + 1) cap9)) := ⟨(World.cell?_of_block (a := ⟨z.Bz, _, none⟩) (Below.heap_setCell w2 _ _ _ hzn)).trans hS2.1, (World.cell?_of_block (a := ⟨Be, _, none⟩) (Below.heap_setCell w2 _ _ _ (Ne.symm hne5))).trans hS2.2.1, (World.cell?_of_block (a := ⟨Be, _, none⟩) (Below.heap_setCell w2 _ _ _ (Ne.symm hne5))).trans hS2.2.2.1, (World.cell?_of_block (a := ⟨Be, _, none⟩) (Below.heap_setCell w2 _ _ _ (Ne.symm hne5))).trans hS2.2.2.2⟩
    refine hK.out _ _ hS3 (fun _ => ?_)
    refine wpAnyH_done (by kernel_rfl) ?_ _
    refine NoPanic.normal ?_
    refine hQ.out g9 cap9 _ _ HQ2.out HST.out ?_
    rw [Ha16.out, Ha15.out, Ha14.out, Ha13.out, Ha12.out, Ha11.out, Ha10.out, Ha9.out, Ha8.out, Ha7.out, Ha6.out, Ha5.out, Ha4.out, Ha3.out, Ha2.out, Ha1.out]
    rw [Act.put_comm (x := some 164) (y := some 162) _ _ _ (by intro e he h9; cases he; cases h9)]


set_option maxHeartbeats 4000000 in
set_option maxRecDepth 100000 in
theorem reg29 {z : ZG} {g : Geo} {wz wx : World} {L O : Nat → List Ent} {mv : Nat → Bool} {nx : Nat} {V : Nat → Value} {Be tt kq q i0 lN cN : Nat} {sN : Option Addr} {Q : Exit → Act → World → Prop} {a0 : Act} (hz0 : Hid (a0.tmps.size = 531)) (e16_0 : a0.tmps[16]? = some (.pointer (some ⟨z.Bz, 0, none⟩))) (e21_0 : a0.tmps[21]? = some (.int .i64 (i0 : Nat))) (e20_0 : a0.tmps[20]? = some (.pointer (some ⟨Be, 0, none⟩)))
    (H3 : Hid (MZ z g wx ⟨L, O, mv, nx, 7, 0, 0⟩ V ∧ Row wx Be 3 31 (fun j => (#[.int .u8 (tt : Nat), .int .u64 (kq : Nat), .int .i64 (q : Nat)] : Array Value).getD j undef))) (HN1 : Hid (∀ j k, j < g.newN + g.oldN → (V j).ownBlock = some k → k ≠ Be)) (HST0 : Hid (Stay wz.heap.size (fun _ => False) wz wx)) (HZB : Hid (z.base = wz.heap.size ∧ wz.heap.size ≤ z.Bz ∧ wz.heap.size ≤ z.Bv ∧ wz.heap.size ≤ z.Bol ∧ wz.heap.size ≤ z.Bnl)) (hDl : i0 < g.oldN) (hix : (g.newN + i0) < g.newN + g.oldN) (HV : Hid (V (g.newN + i0) = .slice sN lN cN)) (HLN : Hid ((O i0).length = lN)) (hlen : lN ≤ 65536)
    (hQ : Hid (∀ (g9 cap9 : Nat) (a' : Act) (w' : World), MZ z g w' ⟨L, setL O i0 (O i0 ++ [⟨tt, kq, q⟩]), mv, nx, 7, 0, 0⟩ (upd V (g.newN + i0) (.slice (some ⟨g9, 0, none⟩) (lN + 1) cap9)) → Stay wz.heap.size (fun _ => False) wz w' → a' = ((((((((((((((((a0.put (some 167) (.pointer (some ⟨z.Bz, 0, none⟩))).put (some 168) (.pointer (some ⟨z.Bz, 0, none⟩))).put (some 169) (.pointer (some ⟨z.Bz, 3, none⟩))).put (some 170) (.slice (some ⟨z.Bol, 0, none⟩) g.oldN g.oldN)).put (some 171) (.int .i64 (i0 : Nat))).put (some 172) (.pointer (some ⟨z.Bz, 0, none⟩))).put (some 173) (.pointer (some ⟨z.Bz, 0, none⟩))).put (some 174) (.pointer (some ⟨z.Bz, 3, none⟩))).put (some 175) (.slice (some ⟨z.Bol, 0, none⟩) g.oldN g.oldN)).put (some 176) (.int .i64 (i0 : Nat))).put (some 177) (.pointer (some ⟨z.Bol, i0, none⟩))).put (some 179) (.agg #[.int .u8 (tt : Nat), .int .u64 (kq : Nat), .int .i64 (q : Nat)])).put (some 178) (.slice sN lN cN)).put (some 180) (.slice (some ⟨wx.heap.size, 0, none⟩) 1 1)).put (some 181) (.slice (some ⟨g9, 0, none⟩) (lN + 1) cap9)).put (some 182) (.pointer (some ⟨z.Bol, i0, none⟩))) → Q .normal a' w')) :
    Code.wp Yba.prog (regOf 29 (bodyOf Yba.f3)) Q a0 wx := by
  have H31 : Hid (∃ i31, Yba.prog.info? 31 = some i31 ∧ i31.zero = some (.agg #[.int .u8 0, .int .u64 0, .int .i64 0]) ∧ i31.size = 3 ∧ i31.bytes = 24) := info_parts (P := Yba.prog) (t := 31) (z := .agg #[.int .u8 0, .int .u64 0, .int .i64 0]) (s := 3) (b := 24) (by kernel_rfl)
  conv => arg 2; whnf
  have hSW : (fun w' : World => w'.cell? ⟨z.Bz, 3, none⟩ = some (.slice (some ⟨z.Bol, 0, none⟩) g.oldN g.oldN) ∧ w'.cell? ⟨Be, 0, none⟩ = some (.int .u8 (tt : Nat)) ∧ w'.cell? ⟨Be, 1, none⟩ = some (.int .u64 (kq : Nat)) ∧ w'.cell? ⟨Be, 2, none⟩ = some (.int .i64 (q : Nat))) wx.drew := ⟨H3.out.1.zr.cell (by omega), H3.out.2.cell (k := 0) (by omega), H3.out.2.cell (k := 1) (by omega), H3.out.2.cell (k := 2) (by omega)⟩
  have n5 : wx.drew.cell? ⟨z.Bol, i0, none⟩ = some (.slice sN lN cN) := by
    show wx.cell? _ = _
    rw [H3.out.1.orr.cell hDl, HV.out]
  have hne5 : z.Bol ≠ Be := H3.out.1.orr.ne H3.out.2 (by decide)
  refine wp_region_noPanic ?_
  refine wp_region_held_drew (S := (fun w' : World => w'.cell? ⟨z.Bz, 3, none⟩ = some (.slice (some ⟨z.Bol, 0, none⟩) g.oldN g.oldN) ∧ w'.cell? ⟨Be, 0, none⟩ = some (.int .u8 (tt : Nat)) ∧ w'.cell? ⟨Be, 1, none⟩ = some (.int .u64 (kq : Nat)) ∧ w'.cell? ⟨Be, 2, none⟩ = some (.int .i64 (q : Nat)))) (by kernel_rfl) hSW (fun _ => ?_)
  refine wpAnyH_take (i := 0) (v := .pointer (some ⟨z.Bz, 0, none⟩)) rfl (by kernel_rfl) (by kernel_rfl) (by kernel_rfl) (fun _ _ _ h => h) (Or.inl ⟨by rfl, ?_⟩) hSW ?_
  · rintro w' ⟨k1, k2, k3, k4⟩; go_simp
  obtain ⟨a1, ha1⟩ : ∃ a1, a1 = a0.put (some 167) (.pointer (some ⟨z.Bz, 0, none⟩)) := ⟨_, rfl⟩
  refine wpAnyH_at ha1 ?_
  have hz1 : Hid (a1.tmps.size = 531) := put_size ha1 hz0.out
  have e16_1 := put_ne ha1 (by decide) e16_0
  have e21_1 := put_ne ha1 (by decide) e21_0
  have e20_1 := put_ne ha1 (by decide) e20_0
  have e167_1 := put_get ha1 (by rw [hz0.out]; decide)
  have Ha1 : Hid _ := ha1
  clear hz0 ha1 e16_0 e21_0 e20_0
  refine wpAnyH_take (i := 1) (v := .pointer (some ⟨z.Bz, 0, none⟩)) rfl (by kernel_rfl) (by kernel_rfl) (by kernel_rfl) (fun _ _ _ h => h) (Or.inl ⟨by rfl, ?_⟩) hSW ?_
  · rintro w' ⟨k1, k2, k3, k4⟩; go_simp
  obtain ⟨a2, ha2⟩ : ∃ a2, a2 = a1.put (some 168) (.pointer (some ⟨z.Bz, 0, none⟩)) := ⟨_, rfl⟩
  refine wpAnyH_at ha2 ?_
  have hz2 : Hid (a2.tmps.size = 531) := put_size ha2 hz1.out
  have e16_2 := put_ne ha2 (by decide) e16_1
  have e21_2 := put_ne ha2 (by decide) e21_1
  have e20_2 := put_ne ha2 (by decide) e20_1
  have e168_2 := put_get ha2 (by rw [hz1.out]; decide)
  have Ha2 : Hid _ := ha2
  clear hz1 ha2 e16_1 e21_1 e20_1 e167_1
  refine wpAnyH_take (i := 2) (v := .pointer (some ⟨z.Bz, 3, none⟩)) rfl (by kernel_rfl) (by kernel_rfl) (by kernel_rfl) (fun _ _ _ h => h) (Or.inl ⟨by rfl, ?_⟩) hSW ?_
  · rintro w' ⟨k1, k2, k3, k4⟩; go_simp
  obtain ⟨a3, ha3⟩ : ∃ a3, a3 = a2.put (some 169) (.pointer (some ⟨z.Bz, 3, none⟩)) := ⟨_, rfl⟩
  refine wpAnyH_at ha3 ?_
  have hz3 : Hid (a3.tmps.size = 531) := put_size ha3 hz2.out
  have e16_3 := put_ne ha3 (by decide) e16_2
  have e21_3 := put_ne ha3 (by decide) e21_2
  have e20_3 := put_ne ha3 (by decide) e20_2
  have e169_3 := put_get ha3 (by rw [hz2.out]; decide)
  have Ha3 : Hid _ := ha3
  clear hz2 ha3 e16_2 e21_2 e20_2 e168_2
  refine wpAnyH_take (i := 3) (v := .slice (some ⟨z.Bol, 0, none⟩) g.oldN g.oldN) rfl (by kernel_rfl) (by kernel_rfl) (by kernel_rfl) (fun _ _ _ h => h) (Or.inl ⟨by rfl, ?_⟩) hSW ?_
  · rintro w' ⟨k1, k2, k3, k4⟩; go_simp
  obtain ⟨a4, ha4⟩ : ∃ a4, a4 = a3.put (some 170) (.slice (some ⟨z.Bol, 0, none⟩) g.oldN g.oldN) := ⟨_, rfl⟩
  refine wpAnyH_at ha4 ?_
  have hz4 : Hid (a4.tmps.size = 531) := put_size ha4 hz3.out
  have e16_4 := put_ne ha4 (by decide) e16_3
  have e21_4 := put_ne ha4 (by decide) e21_3
  have e20_4 := put_ne ha4 (by decide) e20_3
  have e170_4 := put_get ha4 (by rw [hz3.out]; decide)
  have Ha4 : Hid _ := ha4
  clear hz3 ha4 e16_3 e21_3 e20_3 e169_3
  refine wpAnyH_take (i := 4) (v := .int .i64 (i0 : Nat)) rfl (by kernel_rfl) (by kernel_rfl) (by kernel_rfl) (fun _ _ _ h => h) (Or.inl ⟨by rfl, ?_⟩) hSW ?_
  · rintro w' ⟨k1, k2, k3, k4⟩; go_simp
  obtain ⟨a5, ha5⟩ : ∃ a5, a5 = a4.put (some 171) (.int .i64 (i0 : Nat)) := ⟨_, rfl⟩
  refine wpAnyH_at ha5 ?_
  have hz5 : Hid (a5.tmps.size = 531) := put_size ha5 hz4.out
  have e16_5 := put_ne ha5 (by decide) e16_4
  have e21_5 := put_ne ha5 (by decide) e21_4
  have e20_5 := put_ne ha5 (by decide) e20_4
  have e170_5 := put_ne ha5 (by decide) e170_4
  have e171_5 := put_get ha5 (by rw [hz4.out]; decide)
  have Ha5 : Hid _ := ha5
  clear hz4 ha5 e16_4 e21_4 e20_4 e170_4
  refine wpAnyH_take (i := 5) (v := .pointer (some ⟨z.Bz, 0, none⟩)) rfl (by kernel_rfl) (by kernel_rfl) (by kernel_rfl) (fun _ _ _ h => h) (Or.inl ⟨by rfl, ?_⟩) hSW ?_
  · rintro w' ⟨k1, k2, k3, k4⟩; go_simp
  obtain ⟨a6, ha6⟩ : ∃ a6, a6 = a5.put (some 172) (.pointer (some ⟨z.Bz, 0, none⟩)) := ⟨_, rfl⟩
  refine wpAnyH_at ha6 ?_
  have hz6 : Hid (a6.tmps.size = 531) := put_size ha6 hz5.out
  have e16_6 := put_ne ha6 (by decide) e16_5
  have e21_6 := put_ne ha6 (by decide) e21_5
  have e20_6 := put_ne ha6 (by decide) e20_5
  have e170_6 := put_ne ha6 (by decide) e170_5
  have e171_6 := put_ne ha6 (by decide) e171_5
  have e172_6 := put_get ha6 (by rw [hz5.out]; decide)
  have Ha6 : Hid _ := ha6
  clear hz5 ha6 e16_5 e21_5 e20_5 e170_5 e171_5
  refine wpAnyH_take (i := 6) (v := .pointer (some ⟨z.Bz, 0, none⟩)) rfl (by kernel_rfl) (by kernel_rfl) (by kernel_rfl) (fun _ _ _ h => h) (Or.inl ⟨by rfl, ?_⟩) hSW ?_
  · rintro w' ⟨k1, k2, k3, k4⟩; go_simp
  obtain ⟨a7, ha7⟩ : ∃ a7, a7 = a6.put (some 173) (.pointer (some ⟨z.Bz, 0, none⟩)) := ⟨_, rfl⟩
  refine wpAnyH_at ha7 ?_
  have hz7 : Hid (a7.tmps.size = 531) := put_size ha7 hz6.out
  have e16_7 := put_ne ha7 (by decide) e16_6
  have e21_7 := put_ne ha7 (by decide) e21_6
  have e20_7 := put_ne ha7 (by decide) e20_6
  have e170_7 := put_ne ha7 (by decide) e170_6
  have e171_7 := put_ne ha7 (by decide) e171_6
  have e173_7 := put_get ha7 (by rw [hz6.out]; decide)
  have Ha7 : Hid _ := ha7
  clear hz6 ha7 e16_6 e21_6 e20_6 e170_6 e171_6 e172_6
  refine wpAnyH_take (i := 7) (v := .pointer (some ⟨z.Bz, 3, none⟩)) rfl (by kernel_rfl) (by kernel_rfl) (by kernel_rfl) (fun _ _ _ h => h) (Or.inl ⟨by rfl, ?_⟩) hSW ?_
  · rintro w' ⟨k1, k2, k3, k4⟩; go_simp
  obtain ⟨a8, ha8⟩ : ∃ a8, a8 = a7.put (some 174) (.pointer (some ⟨z.Bz, 3, none⟩)) := ⟨_, rfl⟩
  refine wpAnyH_at ha8 ?_
  have hz8 : Hid (a8.tmps.size = 531) := put_size ha8 hz7.out
  have e16_8 := put_ne ha8 (by decide) e16_7
  have e21_8 := put_ne ha8 (by decide) e21_7
  have e20_8 := put_ne ha8 (by decide) e20_7
  have e170_8 := put_ne ha8 (by decide) e170_7
  have e171_8 := put_ne ha8 (by decide) e171_7
  have e174_8 := put_get ha8 (by rw [hz7.out]; decide)
  have Ha8 : Hid _ := ha8
  clear hz7 ha8 e16_7 e21_7 e20_7 e170_7 e171_7 e173_7
  refine wpAnyH_take (i := 8) (v := .slice (some ⟨z.Bol, 0, none⟩) g.oldN g.oldN) rfl (by kernel_rfl) (by kernel_rfl) (by kernel_rfl) (fun _ _ _ h => h) (Or.inl ⟨by rfl, ?_⟩) hSW ?_
  · rintro w' ⟨k1, k2, k3, k4⟩; go_simp
  obtain ⟨a9, ha9⟩ : ∃ a9, a9 = a8.put (some 175) (.slice (some ⟨z.Bol, 0, none⟩) g.oldN g.oldN) := ⟨_, rfl⟩
  refine wpAnyH_at ha9 ?_
  have hz9 : Hid (a9.tmps.size = 531) := put_size ha9 hz8.out
  have e16_9 := put_ne ha9 (by decide) e16_8
  have e21_9 := put_ne ha9 (by decide) e21_8
  have e20_9 := put_ne ha9 (by decide) e20_8
  have e170_9 := put_ne ha9 (by decide) e170_8
  have e171_9 := put_ne ha9 (by decide) e171_8
  have e175_9 := put_get ha9 (by rw [hz8.out]; decide)
  have Ha9 : Hid _ := ha9
  clear hz8 ha9 e16_8 e21_8 e20_8 e170_8 e171_8 e174_8
  refine wpAnyH_take (i := 9) (v := .int .i64 (i0 : Nat)) rfl (by kernel_rfl) (by kernel_rfl) (by kernel_rfl) (fun _ _ _ h => h) (Or.inl ⟨by rfl, ?_⟩) hSW ?_
  · rintro w' ⟨k1, k2, k3, k4⟩; go_simp
  obtain ⟨a10, ha10⟩ : ∃ a10, a10 = a9.put (some 176) (.int .i64 (i0 : Nat)) := ⟨_, rfl⟩
  refine wpAnyH_at ha10 ?_
  have hz10 : Hid (a10.tmps.size = 531) := put_size ha10 hz9.out
  have e16_10 := put_ne ha10 (by decide) e16_9
  have e21_10 := put_ne ha10 (by decide) e21_9
  have e20_10 := put_ne ha10 (by decide) e20_9
  have e170_10 := put_ne ha10 (by decide) e170_9
  have e171_10 := put_ne ha10 (by decide) e171_9
  have e175_10 := put_ne ha10 (by decide) e175_9
  have e176_10 := put_get ha10 (by rw [hz9.out]; decide)
  have Ha10 : Hid _ := ha10
  clear hz9 ha10 e16_9 e21_9 e20_9 e170_9 e171_9 e175_9
  refine wpAnyH_take (i := 10) (v := .pointer (some ⟨z.Bol, i0, none⟩)) rfl (by kernel_rfl) (by kernel_rfl) (by kernel_rfl) (fun _ _ _ h => h) (Or.inl ⟨by rfl, ?_⟩) hSW ?_
  · rintro w' ⟨k1, k2, k3, k4⟩; go_simp
  obtain ⟨a11, ha11⟩ : ∃ a11, a11 = a10.put (some 177) (.pointer (some ⟨z.Bol, i0, none⟩)) := ⟨_, rfl⟩
  refine wpAnyH_at ha11 ?_
  have hz11 : Hid (a11.tmps.size = 531) := put_size ha11 hz10.out
  have e20_11 := put_ne ha11 (by decide) e20_10
  have e170_11 := put_ne ha11 (by decide) e170_10
  have e171_11 := put_ne ha11 (by decide) e171_10
  have e177_11 := put_get ha11 (by rw [hz10.out]; decide)
  have Ha11 : Hid _ := ha11
  clear hz10 ha11 e16_10 e21_10 e20_10 e170_10 e171_10 e175_10 e176_10
  refine wpAnyH_take (i := 12) (v := .agg #[.int .u8 (tt : Nat), .int .u64 (kq : Nat), .int .i64 (q : Nat)]) rfl (by kernel_rfl) (by kernel_rfl) (by kernel_rfl) (fun _ _ _ h => h) (Or.inl ⟨by rfl, ?_⟩) hSW ?_
  · rintro w' ⟨k1, k2, k3, k4⟩; go_simp
  obtain ⟨a12, ha12⟩ : ∃ a12, a12 = a11.put (some 179) (.agg #[.int .u8 (tt : Nat), .int .u64 (kq : Nat), .int .i64 (q : Nat)]) := ⟨_, rfl⟩
  refine wpAnyH_at ha12 ?_
  have hz12 : Hid (a12.tmps.size = 531) := put_size ha12 hz11.out
  have e170_12 := put_ne ha12 (by decide) e170_11
  have e171_12 := put_ne ha12 (by decide) e171_11
  have e177_12 := put_ne ha12 (by decide) e177_11
  have e179_12 := put_get ha12 (by rw [hz11.out]; decide)
  have Ha12 : Hid _ := ha12
  clear hz11 ha12 e20_11 e170_11 e171_11 e177_11
  have hQA : MZ z g (wx.drew.alloc (.cells (entA ⟨tt, kq, q⟩) 31)) _ V := H3.out.1.stay (((Stay.refl _ _ wx).drewN 1).alloc (Nat.le_refl _) _)
  have hnb : (wx.drew.alloc (.cells (entA ⟨tt, kq, q⟩) 31)).heap[wx.heap.size]? = some (.cells (entA ⟨tt, kq, q⟩) 31 (0, 0)) := (MapKept.heap_alloc wx.drew _).1
  have hSA : (fun w' : World => w'.cell? ⟨z.Bz, 3, none⟩ = some (.slice (some ⟨z.Bol, 0, none⟩) g.oldN g.oldN) ∧ w'.cell? ⟨Be, 0, none⟩ = some (.int .u8 (tt : Nat)) ∧ w'.cell? ⟨Be, 1, none⟩ = some (.int .u64 (kq : Nat)) ∧ w'.cell? ⟨Be, 2, none⟩ = some (.int .i64 (q : Nat))) (wx.drew.alloc (.cells (entA ⟨tt, kq, q⟩) 31)) := ⟨((Stay.refl wx.heap.size (fun _ => False) wx.drew).alloc (Nat.le_refl _) _).some hSW.1, ((Stay.refl wx.heap.size (fun _ => False) wx.drew).alloc (Nat.le_refl _) _).some hSW.2.1, ((Stay.refl wx.heap.size (fun _ => False) wx.drew).alloc (Nat.le_refl _) _).some hSW.2.2.1, ((Stay.refl wx.heap.size (fun _ => False) wx.drew).alloc (Nat.le_refl _) _).some hSW.2.2.2⟩
  have hownA : (wx.drew.alloc (.cells (entA ⟨tt, kq, q⟩) 31)).ownsRow z.base 31 3 (.slice sN lN cN) lN (flat (O i0)) := by
    have h9 := hQA.ls.own (g.newN + i0) hix
    rw [LL_old, HV.out, HLN.out] at h9
    exact h9
  have hbsA : z.base ≤ (wx.drew.alloc (.cells (entA ⟨tt, kq, q⟩) 31)).heap.size := by have h8 := H3.out.1.bs; simp; omega
  obtain ⟨i31, hi31, hz31, hs31, hb31⟩ := H31.out
  have HQA : Hid _ := hQA
  unfold entA at hQA hnb hSA hownA hbsA
  refine wpAnyH_ready (rs := [11, 13]) (by kernel_rfl) (by simp) ?_
  refine AllReadyH.cons rfl (fun K hK => ?_) (AllReadyH.cons rfl (fun K hK => ?_) AllReadyH.nil)
  · go_simp
    refine hK.out _ _ hSW (fun _ => ?_)
    clear hK K
    obtain ⟨a13, ha13⟩ : ∃ a13, a13 = a12.put (some 178) (.slice sN lN cN) := ⟨_, rfl⟩
    refine wpAnyH_at ha13 ?_
    have hz13 : Hid (a13.tmps.size = 531) := put_size ha13 hz12.out
    have e170_13 := put_ne ha13 (by decide) e170_12
    have e171_13 := put_ne ha13 (by decide) e171_12
    have e179_13 := put_ne ha13 (by decide) e179_12
    have e178_13 := put_get ha13 (by rw [hz12.out]; decide)
    have Ha13 : Hid _ := ha13
    clear hz12 ha13 e170_12 e171_12 e177_12 e179_12
    refine wpAnyH_ready (rs := [13]) (by kernel_rfl) (by simp) ?_
    refine AllReadyH.cons rfl (fun K hK => ?_) AllReadyH.nil
    go_simp
    refine hK.out _ _ hSA (fun _ => ?_)
    clear hK K
    obtain ⟨a14, ha14⟩ : ∃ a14, a14 = a13.put (some 180) (.slice (some ⟨wx.heap.size, 0, none⟩) 1 1) := ⟨_, rfl⟩
    refine wpAnyH_at ha14 ?_
    have hz14 : Hid (a14.tmps.size = 531) := put_size ha14 hz13.out
    have e170_14 := put_ne ha14 (by decide) e170_13
    have e171_14 := put_ne ha14 (by decide) e171_13
    have e178_14 := put_ne ha14 (by decide) e178_13
    have e180_14 := put_get ha14 (by rw [hz13.out]; decide)
    have Ha14 : Hid _ := ha14
    clear hz13 ha14 e170_13 e171_13 e179_13 e178_13
    refine wpAnyH_ready (rs := [14]) (by kernel_rfl) (by simp) ?_
    refine AllReadyH.cons rfl (fun K hK => ?_) AllReadyH.nil
    refine step_append_lies _ rfl _ _ 32 rfl z.base 31 i31 _ 3 24 Yba.underlying32 hi31 hz31 hs31 hb31 rfl (by decide) (.slice sN lN cN) lN (flat (O i0)) (ev e178_14) hownA ⟨wx.heap.size, 0, none⟩ 1 1 (cells3 ⟨tt, kq, q⟩) (ev e180_14) rfl (World.news_of_block (cs := entA ⟨tt, kq, q⟩) (t := 31) (fr := (0, 0)) hnb) (by simp [cells3, Value.oneCell']) (by decide) (by have := hlen; simp only [maxLen]; omega) (by omega) hbsA _ rfl ?_
    intro g9 cap9 w2 hown2 hgrow hat hlt2
    have hk9 : ∀ k, (Value.slice sN lN cN).ownBlock = some k → ∃ a, (wx.drew.alloc (.cells (entA ⟨tt, kq, q⟩) 31)).heap[k]? = some (.cells a 31 (0, 0)) := fun k hk => (HQA.out.ls.kind (j := (g.newN + i0)) hix (by rw [HV.out]; exact hk)).2
    have Q2 := HQA.out.appO hDl (e := ⟨tt, kq, q⟩) (v' := .slice (some ⟨g9, 0, none⟩) (lN + 1) cap9) (by show World.ownsRow _ _ _ _ _ ((O i0).length + 1) _; rw [HLN.out]; exact hown2) (by rw [HV.out]; exact hgrow) (fun k hk => by
      have e9 : g9 = k := by simpa [Value.ownBlock] using hk
      rw [HV.out, ← e9]
      rcases hat with h8 | h8
      · exact .inl h8
      · exact .inr (Nat.le_of_eq h8.symm))
    have zr2 := grown_row hgrow hk9 HQA.out.zr (by decide)
    have nr2 := grown_row hgrow hk9 HQA.out.orr (by decide)
    have hbe : w2.heap[Be]? = wx.heap[Be]? := (hgrow.block Be (by have := H3.out.2.lt; simp; omega) (fun e => by
      have h7 := HN1.out (g.newN + i0) Be hix (by rw [HV.out]; exact e.symm)
      exact h7 rfl)).trans ((MapKept.heap_alloc wx.drew _).2 Be H3.out.2.lt)
    have hS2 : (fun w' : World => w'.cell? ⟨z.Bz, 3, none⟩ = some (.slice (some ⟨z.Bol, 0, none⟩) g.oldN g.oldN) ∧ w'.cell? ⟨Be, 0, none⟩ = some (.int .u8 (tt : Nat)) ∧ w'.cell? ⟨Be, 1, none⟩ = some (.int .u64 (kq : Nat)) ∧ w'.cell? ⟨Be, 2, none⟩ = some (.int .i64 (q : Nat))) w2 := ⟨zr2.cell (by omega), (World.cell?_of_block (a := ⟨Be, 0, none⟩) hbe).trans hSW.2.1, (World.cell?_of_block (a := ⟨Be, 1, none⟩) hbe).trans hSW.2.2.1, (World.cell?_of_block (a := ⟨Be, 2, none⟩) hbe).trans hSW.2.2.2⟩
    have nc2 := nr2.cell (k := i0) hDl
    have nf2 := nr2.frozen (k := i0)
    have hzn := zr2.ne nr2 (by decide)
    have HQ2 : Hid _ := Q2
    have HST : Hid (Stay wz.heap.size (fun _ => False) wz (w2.setCell ⟨z.Bol, i0, none⟩ (.slice (some ⟨g9, 0, none⟩) (lN + 1) cap9))) := Stay.set (stay_grown (Stay.alloc (HST0.out.drewN 1) HST0.out.size _) hgrow (by have := HST0.out.size; simp; omega) (fun k hk => .inl (by have h6 := HQA.out.ls.low (j := (g.newN + i0)) hix (by rw [HV.out]; exact hk); have h7 := HZB.out.1; omega))) _ (.inl HZB.out.2.2.2.1)
    refine hK.out _ _ hS2 (fun _ => ?_)
    clear hK K Q2 zr2 nr2 hk9 hbe hown2 hgrow hat hlt2 hSA n5 hnb hownA hbsA hQA hi31 hz31 hs31 hb31
    obtain ⟨a15, ha15⟩ : ∃ a15, a15 = a14.put (some 181) (.slice (some ⟨g9, 0, none⟩) (lN + 1) cap9) := ⟨_, rfl⟩
    refine wpAnyH_at ha15 ?_
    have hz15 : Hid (a15.tmps.size = 531) := put_size ha15 hz14.out
    have e170_15 := put_ne ha15 (by decide) e170_14
    have e171_15 := put_ne ha15 (by decide) e171_14
    have e181_15 := put_get ha15 (by rw [hz14.out]; decide)
    have Ha15 : Hid _ := ha15
    clear hz14 ha15 e170_14 e171_14 e178_14 e180_14
    refine wpAnyH_take (i := 15) (v := .pointer (some ⟨z.Bol, i0, none⟩)) rfl (by kernel_rfl) (by kernel_rfl) (by kernel_rfl) (fun _ _ _ h => h) (Or.inl ⟨by rfl, ?_⟩) hS2 ?_
    · rintro w' ⟨k1, k2, k3, k4⟩; go_simp
    obtain ⟨a16, ha16⟩ : ∃ a16, a16 = a15.put (some 182) (.pointer (some ⟨z.Bol, i0, none⟩)) := ⟨_, rfl⟩
    refine wpAnyH_at ha16 ?_
    have hz16 : Hid (a16.tmps.size = 531) := put_size ha16 hz15.out
    have e181_16 := put_ne ha16 (by decide) e181_15
    have e182_16 := put_get ha16 (by rw [hz15.out]; decide)
    have Ha16 : Hid _ := ha16
    clear hz15 ha16 e170_15 e171_15 e181_15
    refine wpAnyH_ready (rs := [16]) (by kernel_rfl) (by simp) ?_
    refine AllReadyH.cons rfl (fun K hK => ?_) AllReadyH.nil
    go_simp
    have hS3 : (fun w' : World => w'.cell? ⟨z.Bz, 3, none⟩ = some (.slice (some ⟨z.Bol, 0, none⟩) g.oldN g.oldN) ∧ w'.cell? ⟨Be, 0, none⟩ = some (.int .u8 (tt : Nat)) ∧ w'.cell? ⟨Be, 1, none⟩ = some (.int .u64 (kq : Nat)) ∧ w'.cell? ⟨Be, 2, none⟩ = some (.int .i64 (q : Nat))) (w2.setCell ⟨z.Bol, i0, none⟩ (.slice (some ⟨g9, 0, none⟩) (lN + 1) cap9)) := ⟨(World.cell?_of_block (a := ⟨z.Bz, _, none⟩) (Below.heap_setCell w2 _ _ _ hzn)).trans hS2.1, (World.cell?_of_block (a := ⟨Be, _, none⟩) (Below.heap_setCell w2 _ _ _ (Ne.symm hne5))).trans hS2.2.1, (World.cell?_of_block (a := ⟨Be, _, none⟩) (Below.heap_setCell w2 _ _ _ (Ne.symm hne5))).trans hS2.2.2.1, (World.cell?_of_block (a := ⟨Be, _, none⟩) (Below.heap_setCell w2 _ _ _ (Ne.symm hne5))).trans hS2.2.2.2⟩
    refine hK.out _ _ hS3 (fun _ => ?_)
    refine wpAnyH_done (by kernel_rfl) ?_ _
    refine NoPanic.normal ?_
    refine hQ.out g9 cap9 _ _ HQ2.out HST.out ?_
    rw [Ha16.out, Ha15.out, Ha14.out, Ha13.out, Ha12.out, Ha11.out, Ha10.out, Ha9.out, Ha8.out, Ha7.out, Ha6.out, Ha5.out, Ha4.out, Ha3.out, Ha2.out, Ha1.out]
  · go_simp
    refine hK.out _ _ hSA (fun _ => ?_)
    clear hK K
    obtain ⟨a13, ha13⟩ : ∃ a13, a13 = a12.put (some 180) (.slice (some ⟨wx.heap.size, 0, none⟩) 1 1) := ⟨_, rfl⟩
    refine wpAnyH_at ha13 ?_
    have hz13 : Hid (a13.tmps.size = 531) := put_size ha13 hz12.out
    have e170_13 := put_ne ha13 (by decide) e170_12
    have e171_13 := put_ne ha13 (by decide) e171_12
    have e177_13 := put_ne ha13 (by decide) e177_12
    have e180_13 := put_get ha13 (by rw [hz12.out]; decide)
    have Ha13 : Hid _ := ha13
    clear hz12 ha13 e170_12 e171_12 e177_12 e179_12
    have n6 : (wx.alloc (.cells #[.int .u8 (tt : Nat), .int .u64 (kq : Nat), .int .i64 (q : Nat)] 31)).drew.cell? ⟨z.Bol, i0, none⟩ = some (.slice sN lN cN) := ((Stay.refl wx.heap.size (fun _ => False) wx.drew).alloc (Nat.le_refl _) _).some n5
    refine wpAnyH_ready (rs := [11]) (by kernel_rfl) (by simp) ?_
    refine AllReadyH.cons rfl (fun K hK => ?_) AllReadyH.nil
    go_simp
    refine hK.out _ _ hSA (fun _ => ?_)
    clear hK K n6
    obtain ⟨a14, ha14⟩ : ∃ a14, a14 = a13.put (some 178) (.slice sN lN cN) := ⟨_, rfl⟩
    refine wpAnyH_at ha14 ?_
    have hz14 : Hid (a14.tmps.size = 531) := put_size ha14 hz13.out
    have e170_14 := put_ne ha14 (by decide) e170_13
    have e171_14 := put_ne ha14 (by decide) e171_13
    have e180_14 := put_ne ha14 (by decide) e180_13
    have e178_14 := put_get ha14 (by rw [hz13.out]; decide)
    have Ha14 : Hid _ := ha14
    clear hz13 ha14 e170_13 e171_13 e177_13 e180_13
    refine wpAnyH_ready (rs := [14]) (by kernel_rfl) (by simp) ?_
    refine AllReadyH.cons rfl (fun K hK => ?_) AllReadyH.nil
    refine step_append_lies _ rfl _ _ 32 rfl z.base 31 i31 _ 3 24 Yba.underlying32 hi31 hz31 hs31 hb31 rfl (by decide) (.slice sN lN cN) lN (flat (O i0)) (ev e178_14) hownA ⟨wx.heap.size, 0, none⟩ 1 1 (cells3 ⟨tt, kq, q⟩) (ev e180_14) rfl (World.news_of_block (cs := entA ⟨tt, kq, q⟩) (t := 31) (fr := (0, 0)) hnb) (by simp [cells3, Value.oneCell']) (by decide) (by have := hlen; simp only [maxLen]; omega) (by omega) hbsA _ rfl ?_
    intro g9 cap9 w2 hown2 hgrow hat hlt2
    have hk9 : ∀ k, (Value.slice sN lN cN).ownBlock = some k → ∃ a, (wx.drew.alloc (.cells (entA ⟨tt, kq, q⟩) 31)).heap[k]? = some (.cells a 31 (0, 0)) := fun k hk => (HQA.out.ls.kind (j := (g.newN + i0)) hix (by rw [HV.out]; exact hk)).2
    have Q2 := HQA.out.appO hDl (e := ⟨tt, kq, q⟩) (v' := .slice (some ⟨g9, 0, none⟩) (lN + 1) cap9) (by show World.ownsRow _ _ _ _ _ ((O i0).length + 1) _; rw [HLN.out]; exact hown2) (by rw [HV.out]; exact hgrow) (fun k hk => by
      have e9 : g9 = k := by simpa [Value.ownBlock] using hk
      rw [HV.out, ← e9]
      rcases hat with h8 | h8
      · exact .inl h8
      · exact .inr (Nat.le_of_eq h8.symm))
    have zr2 := grown_row hgrow hk9 HQA.out.zr (by decide)
    have nr2 := grown_row hgrow hk9 HQA.out.orr (by decide)
    have hbe : w2.heap[Be]? = wx.heap[Be]? := (hgrow.block Be (by have := H3.out.2.lt; simp; omega) (fun e => by
      have h7 := HN1.out (g.newN + i0) Be hix (by rw [HV.out]; exact e.symm)
      exact h7 rfl)).trans ((MapKept.heap_alloc wx.drew _).2 Be H3.out.2.lt)
    have hS2 : (fun w' : World => w'.cell? ⟨z.Bz, 3, none⟩ = some (.slice (some ⟨z.Bol, 0, none⟩) g.oldN g.oldN) ∧ w'.cell? ⟨Be, 0, none⟩ = some (.int .u8 (tt : Nat)) ∧ w'.cell? ⟨Be, 1, none⟩ = some (.int .u64 (kq : Nat)) ∧ w'.cell? ⟨Be, 2, none⟩ = some (.int .i64 (q : Nat))) w2 := ⟨zr2.cell (by omega), (World.cell?_of_block (a := ⟨Be, 0, none⟩) hbe).trans hSW.2.1, (World.cell?_of_block (a := ⟨Be, 1, none⟩) hbe).trans hSW.2.2.1, (World.cell?_of_block (a := ⟨Be, 2, none⟩) hbe).trans hSW.2.2.2⟩
    have nc2 := nr2.cell (k := i0) hDl
    have nf2 := nr2.frozen (k := i0)
    have hzn := zr2.ne nr2 (by decide)
    have HQ2 : Hid _ := Q2
    have HST : Hid (Stay wz.heap.size (fun _ => False) wz (w2.setCell ⟨z.Bol, i0, none⟩ (.slice (some ⟨g9, 0, none⟩) (lN + 1) cap9))) := Stay.set (stay_grown (Stay.alloc (HST0.out.drewN 1) HST0.out.size _) hgrow (by have := HST0.out.size; simp; omega) (fun k hk => .inl (by have h6 := HQA.out.ls.low (j := (g.newN + i0)) hix (by rw [HV.out]; exact hk); have h7 := HZB.out.1; omega))) _ (.inl HZB.out.2.2.2.1)
    refine hK.out _ _ hS2 (fun _ => ?_)
    clear hK K Q2 zr2 nr2 hk9 hbe hown2 hgrow hat hlt2 hSA n5 hnb hownA hbsA hQA hi31 hz31 hs31 hb31
    obtain ⟨a15, ha15⟩ : ∃ a15, a15 = a14.put (some 181) (.slice (some ⟨g9, 0, none⟩) (lN + 1) cap9) := ⟨_, rfl⟩
    refine wpAnyH_at ha15 ?_
    have hz15 : Hid (a15.tmps.size = 531) := put_size ha15 hz14.out
    have e170_15 := put_ne ha15 (by decide) e170_14
    have e171_15 := put_ne ha15 (by decide) e171_14
    have e181_15 := put_get ha15 (by rw [hz14.out]; decide)
    have Ha15 : Hid _ := ha15
    clear hz14 ha15 e170_14 e171_14 e180_14 e178_14
    refine wpAnyH_take (i := 15) (v := .pointer (some ⟨z.Bol, i0, none⟩)) rfl (by kernel_rfl) (by kernel_rfl) (by kernel_rfl) (fun _ _ _ h => h) (Or.inl ⟨by rfl, ?_⟩) hS2 ?_
    · rintro w' ⟨k1, k2, k3, k4⟩; go_simp
    obtain ⟨a16, ha16⟩ : ∃ a16, a16 = a15.put (some 182) (.pointer (some ⟨z.Bol, i0, none⟩)) := ⟨_, rfl⟩
    refine wpAnyH_at ha16 ?_
    have hz16 : Hid (a16.tmps.size = 531) := put_size ha16 hz15.out
    have e181_16 := put_ne ha16 (by decide) e181_15
    have e182_16 := put_get ha16 (by rw [hz15.out]; decide)
    have Ha16 : Hid _ := ha16
    clear hz15 ha16 e170_15 e171_15 e181_15
    refine wpAnyH_ready (rs := [16]) (by kernel_rfl) (by simp) ?_
    refine AllReadyH.cons rfl (fun K hK => ?_) AllReadyH.nil
    go_simp
    have hS3 : (fun w' : World => w'.cell? ⟨z.Bz, 3, none⟩ = some (.slice (some ⟨z.Bol, 0, none⟩) g.oldN g.oldN) ∧ w'.cell? ⟨Be, 0, none⟩ = some (.int .u8 (tt : Nat)) ∧ w'.cell? ⟨Be, 1, none⟩ = some (.int .u64 (kq : Nat)) ∧ w'.cell? ⟨Be, 2, none⟩ = some (.int .i64 (q : Nat))) (w2.setCell ⟨z.Bol, i0, none⟩ (.slice (some ⟨g9, 0, none⟩) (lN + 1) cap9)) := ⟨(World.cell?_of_block (a := ⟨z.Bz, _, none⟩) (Below.heap_setCell w2 _ _ _ hzn)).trans hS2.1, (World.cell?_of_block (a := ⟨Be, _, none⟩) (Below.heap_setCell w2 _ _ _ (Ne.symm hne5))).trans hS2.2.1, (World.cell?_of_block (a := ⟨Be, _, none⟩) (Below.heap_setCell w2 _ _ _ (Ne.symm hne5))).trans hS2.2.2.1, (World.cell?_of_block (a := ⟨Be, _, none⟩) (Below.heap_setCell w2 _ _ _ (Ne.symm hne5))).trans hS2.2.2.2⟩
    refine hK.out _ _ hS3 (fun _ => ?_)
    refine wpAnyH_done (by kernel_rfl) ?_ _
    refine NoPanic.normal ?_
    refine hQ.out g9 cap9 _ _ HQ2.out HST.out ?_
    rw [Ha16.out, Ha15.out, Ha14.out, Ha13.out, Ha12.out, Ha11.out, Ha10.out, Ha9.out, Ha8.out, Ha7.out, Ha6.out, Ha5.out, Ha4.out, Ha3.out, Ha2.out, Ha1.out]
    rw [Act.put_comm (x := some 180) (y := some 178) _ _ _ (by intro e he h9; cases he; cases h9)]


end Go.Proofs.Ybulkeaqa
