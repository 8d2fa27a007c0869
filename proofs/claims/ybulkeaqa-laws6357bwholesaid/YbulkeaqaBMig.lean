/- S6357B: migrate. -/
import Derived.Test.YbulkeaqaBState
namespace Go.Proofs.Ybulkeaqa
open Go.RowKit Go.Shelf
set_option linter.unusedSimpArgs false

theorem Stay.two {g : Geo} {w w1 w2 : World} {ov ov1 : Nat → Nat → Nat} {L L1 : Nat → List Ent} (h1 : Stay w.heap.size (Touch g ov L) w w1) (h2 : Stay w1.heap.size (Touch g ov1 L1) w1 w2) (hn : ∀ b, Mine g.Bn g.newN ov1 L1 b → Mine g.Bn g.newN ov L b ∨ w.heap.size ≤ b) : Stay w.heap.size (Touch g ov L) w w2 := by
  refine ⟨h2.os.trans h1.os, h2.tape.trans h1.tape, h2.output.trans h1.output, Nat.le_trans h1.size h2.size, fun b hb hs => (h2.block b (Nat.lt_of_lt_of_le hb h1.size) ?_).trans (h1.block b hb hs)⟩
  rintro (e | e)
  · rcases hn b e with e | e
    · exact hs (.inl e)
    · omega
  · exact hs (.inr e)

set_option maxHeartbeats 2000000 in
theorem migrate_ms {g : Geo} {w : World} {p : Pl} {m h : Nat} {F : Nat → Value} {ov : Nat → Nat → Nat} {Fo : Nat → Value} {ovo : Nat → Nat → Nat} (hg : g.Ok) (hp : p.Ok g m) (hm : m ≤ 300000) (hmg : p.mig ≤ 10) (hs : MS g w p F ov Fo ovo) (hh : h < 18446744073709551616) (hnx : p.nx < g.oldN) :
    Calls Yba.prog 9 #[.pointer (some ⟨g.Bm, 0, none⟩), .int .u64 h] w fun e w' => e = .returned (.tuple #[]) ∧ ∃ F' ov' Fo', MS g w' (migP g p h) F' ov' Fo' ovo ∧ Stay w.heap.size (Touch g ov p.L) w w' ∧ (∀ b, Mine g.Bn g.newN ov' (migP g p h).L b → Mine g.Bn g.newN ov p.L b ∨ w.heap.size ≤ b) := by
  have hR : Row w g.Bm 18 53 (mapF g.Bc g.Bn g.Bo g.newN g.oldN p.nx g.len p.ovc p.mig) := by
    have := hs.map
    unfold mapN at this
    rwa [if_neg (by omega)] at this
  have hil : h % g.oldN < g.oldN := Nat.mod_lt _ hg.o4
  have o3 := hg.o3
  have o4 := hg.o4
  -- the second half
  have second : ∀ (w1 : World) (F1 : Nat → Value) (ov1 : Nat → Nat → Nat) (Fo1 : Nat → Value), MS g w1 (mig1 g p h) F1 ov1 Fo1 ovo → Stay w.heap.size (Touch g ov p.L) w w1 → (∀ b, Mine g.Bn g.newN ov1 (mig1 g p h).L b → Mine g.Bn g.newN ov p.L b ∨ w.heap.size ≤ b) → (mig1 g p h).Ok g (m + 65536) → (mig1 g p h).nx ≠ g.oldN →
      Calls Yba.prog 17 #[.pointer (some ⟨g.Bm, 0, none⟩), .int .i64 (mig1 g p h).nx] w1 fun e w' => e = .returned (.tuple #[]) ∧ ∃ F' ov' Fo', MS g w' (migP g p h) F' ov' Fo' ovo ∧ Stay w.heap.size (Touch g ov p.L) w w' ∧ (∀ b, Mine g.Bn g.newN ov' (migP g p h).L b → Mine g.Bn g.newN ov p.L b ∨ w.heap.size ≤ b) := fun w1 F1 ov1 Fo1 hms hst hmi hok hne => by
    have hlt : (mig1 g p h).nx < g.oldN := by have := hok.nxl; omega
    refine (move_ms hg hok (by omega) hms hlt (hok.nxs hlt) hlt).mono ?_
    rintro e w' ⟨rfl, F', ov', h1, h2, h3⟩
    have e1 : migP g p h = moveP g (mig1 g p h) (mig1 g p h).nx := by unfold migP; rw [if_neg hne]
    rw [e1]
    refine ⟨rfl, F', ov', _, h1, hst.two h2 hmi, fun b hb => ?_⟩
    rcases h3 b hb with h4 | h4
    · exact hmi b h4
    · exact .inr (Nat.le_trans hst.size h4)
  have HSEC : Hid _ := second
  have HL : Hid _ := len_any g.Bm 6 g.oldN w (tabO hR).n0
  have HI : Hid _ := index_any h g.e0 g.oldN w hh (by have := hg.o2; omega) hg.o1
  have HMG : Hid (∀ (w1 : World) (F1 : Nat → Value) (ov1 : Nat → Nat → Nat) (Fo1 : Nat → Value), MS g w1 (mig1 g p h) F1 ov1 Fo1 ovo → Calls Yba.prog 18 #[.pointer (some ⟨g.Bm, 0, none⟩)] w1 fun e w' => e = .returned (.bool (decide ((mig1 g p h).nx ≠ g.oldN))) ∧ w1 = w') := fun w1 F1 ov1 Fo1 hms => by
    obtain ⟨o, h1, h2, h3⟩ := mapN_at (Bc := g.Bc) (Bn := g.Bn) (Bo := g.Bo) (newN := g.newN) (oldN := g.oldN) (next := (mig1 g p h).nx) (len := g.len) (ovc := (mig1 g p h).ovc) (mig := (mig1 g p h).mig)
    refine (migrating_any g.Bm o w1 ((hms.map.cell (by omega)).trans (congrArg some h1))).mono ?_
    rintro e w' ⟨rfl, rfl⟩
    refine ⟨?_, rfl⟩
    by_cases e : (mig1 g p h).nx = g.oldN
    · rw [h2 e]; simp [e]
    · rw [h3 e]; simp [e, o4]
  have HP : Hid _ := hp
  have HS : Hid _ := hs
  have HG : Hid _ := hg
  clear second hg hp hs
  by_cases hmv : p.mv (h % g.oldN) = true
  · have HV : Hid (Calls Yba.prog 16 #[.pointer (some ⟨g.Bm, 6, none⟩), .int .i64 ((h % g.oldN : Nat) : Int)] w fun e w' => e = .returned (.bool true) ∧ w = w') := moved_any g.Bm 6 g.oldN g.Bo (h % g.oldN) 1 w (tabO hR) hil (by omega) (by
      have := HS.out.omv _ hil hmv 0 (by omega)
      rw [Nat.add_zero] at this
      rw [HS.out.old.cell (by omega), this]; rfl)
    have e1 : mig1 g p h = p := by unfold mig1; rw [if_pos hmv]
    have HNE : Hid ((mig1 g p h).nx ≠ g.oldN) := by rw [e1]; exact Nat.ne_of_lt hnx
    have HMS : Hid (MS g w (mig1 g p h) F ov Fo ovo) := by rw [e1]; exact HS.out
    have hnb : decide ((mig1 g p h).nx ≠ g.oldN) = true := decide_eq_true HNE.out
    have HOK : Hid ((mig1 g p h).Ok g (m + 65536)) := by
      rw [e1]
      have q := HP.out
      exact ⟨fun j => by have := q.l1 j; omega, q.o1, by have := q.v1; omega, by have := q.c1; omega, q.g1, q.nxl, q.nxs, q.lok, q.ook⟩
    have HMI : Hid (∀ b, Mine g.Bn g.newN ov (mig1 g p h).L b → Mine g.Bn g.newN ov p.L b ∨ w.heap.size ≤ b) := by rw [e1]; exact fun b hb => .inl hb
    have n10 : w.cell? ⟨g.Bm, 10, none⟩ = some (.int .i64 (mig1 g p h).nx) := by rw [e1]; exact hR.cell (by omega)
    have HIX : Hid _ := fun u => indexAt_any g.Bm 6 g.oldN g.Bo (mig1 g p h).nx (w.drewN u) (tabO (hR.drewN u))
    have HM0 : Hid _ := HMG.out w F ov Fo HMS.out
    have HEM : Hid _ := hmv
    clear hR hmv e1
    generalize mig1 g p h = p1 at *
    go_enter Yba.func9, Yba.ntmps9
    go_upto_region 4 with (first
      | (go_at_call 15; refine Calls.mono HL.out ?_; rintro e w' ⟨rfl, rfl⟩)
      | (go_at_call 14; refine Calls.mono HI.out ?_; rintro e w' ⟨rfl, rfl⟩)
      | (go_at_call 16; refine Calls.mono HV.out ?_; rintro e w' ⟨rfl, rfl⟩)
      | (go_at_call 18; refine Calls.mono HM0.out ?_; rintro e w' ⟨rfl, rfl⟩))
    have HSE : Hid _ := HSEC.out (w.drewN 1) F ov Fo (HMS.out.drewN 1) ((Stay.refl _ _ w).drewN 1) HMI.out HOK.out HNE.out
    refine wp_region_noPanic ?_
    go_region_with (first
      | (go_at_call 19; refine Calls.mono (HIX.out 1) ?_; rintro e w2 ⟨rfl, rfl⟩)
      | (go_at_call 17; refine Calls.mono HSE.out ?_; rintro e w2 ⟨rfl, hfin⟩))
    refine NoPanic.normal ?_
    go_end0
    exact ⟨rfl, hfin⟩
  · have hmf : p.mv (h % g.oldN) = false := by simpa using hmv
    have HV : Hid (Calls Yba.prog 16 #[.pointer (some ⟨g.Bm, 6, none⟩), .int .i64 ((h % g.oldN : Nat) : Int)] w fun e w' => e = .returned (.bool false) ∧ w = w') := (moved_any g.Bm 6 g.oldN g.Bo (h % g.oldN) (tg (p.O (h % g.oldN)) 0) w (tabO hR) hil (by omega) (by
      have hc := (HS.out.och _ hil hmf).head 0 (by omega)
      rw [Nat.add_zero] at hc
      rw [HS.out.old.cell (by omega), hc, bcell_t _ _ _ (by omega)])).mono (fun e w' h9 => ⟨h9.1.trans (by rw [tag_ne (tg_ne_one (HP.out.ook _))]), h9.2⟩)
    have e1 : mig1 g p h = moveP g p (h % g.oldN) := by unfold mig1; rw [if_neg hmv]
    have HMV : Hid (Calls Yba.prog 17 #[.pointer (some ⟨g.Bm, 0, none⟩), .int .i64 ((h % g.oldN : Nat) : Int)] w fun e w' => e = .returned (.tuple #[]) ∧ ∃ F' ov' Fo', MS g w' (mig1 g p h) F' ov' Fo' ovo ∧ Stay w.heap.size (Touch g ov p.L) w w' ∧ (∀ b, Mine g.Bn g.newN ov' (mig1 g p h).L b → Mine g.Bn g.newN ov p.L b ∨ w.heap.size ≤ b)) := by
      rw [e1]
      exact (move_ms HG.out HP.out (by omega) HS.out hil hmf hnx).mono (fun e w' h9 => ⟨h9.1, by obtain ⟨_, F', ov', h1, h2, h3⟩ := h9; exact ⟨F', ov', _, h1, h2, h3⟩⟩)
    have HOK : Hid ((mig1 g p h).Ok g (m + 65536)) := by rw [e1]; exact HP.out.move (by omega) _
    have HEM : Hid (mig1 g p h = moveP g p (h % g.oldN)) := e1
    clear hR hmv e1 hmf
    have hend : Hid ((mig1 g p h).nx = g.oldN → migP g p h = mig1 g p h) := fun e => by unfold migP; rw [if_pos e]
    clear HEM
    generalize mig1 g p h = p1 at *
    go_enter Yba.func9, Yba.ntmps9
    go_upto_region 3 with (first
      | (go_at_call 15; refine Calls.mono HL.out ?_; rintro e w' ⟨rfl, rfl⟩)
      | (go_at_call 14; refine Calls.mono HI.out ?_; rintro e w' ⟨rfl, rfl⟩)
      | (go_at_call 16; refine Calls.mono HV.out ?_; rintro e w' ⟨rfl, rfl⟩)
      | (go_at_call 17; refine Calls.mono HMV.out ?_; rintro e w1 ⟨rfl, F1, ov1, Fo1, hms, hst, hmi⟩; have H1 : Hid (MS g w1 p1 F1 ov1 Fo1 ovo ∧ Stay w.heap.size (Touch g ov p.L) w w1 ∧ (∀ b, Mine g.Bn g.newN ov1 p1.L b → Mine g.Bn g.newN ov p.L b ∨ w.heap.size ≤ b)) := ⟨hms, hst, hmi⟩; clear hms hst hmi))
    by_cases hne : p1.nx = g.oldN
    · have hnb : decide (p1.nx ≠ g.oldN) = false := decide_eq_false (fun h9 => h9 hne)
      have HM0 : Hid _ := HMG.out w1 F1 ov1 Fo1 H1.out.1
      have HNE : Hid _ := hne
      clear hne
      go_wp2_with (go_at_call 18; refine Calls.mono HM0.out ?_; rintro e w' ⟨rfl, rfl⟩)
      go_end0
      rw [hend.out HNE.out]
      exact ⟨rfl, F1, ov1, Fo1, H1.out⟩
    · have hnb : decide (p1.nx ≠ g.oldN) = true := decide_eq_true hne
      have HM0 : Hid _ := HMG.out w1 F1 ov1 Fo1 H1.out.1
      have R1 : Row w1 g.Bm 18 53 (mapF g.Bc g.Bn g.Bo g.newN g.oldN p1.nx g.len p1.ovc p1.mig) := by
        have := H1.out.1.map
        unfold mapN at this
        rwa [if_neg hne] at this
      have n10 : w1.cell? ⟨g.Bm, 10, none⟩ = some (.int .i64 p1.nx) := R1.cell (by omega)
      have HIX : Hid _ := fun u => indexAt_any g.Bm 6 g.oldN g.Bo p1.nx (w1.drewN u) (tabO (R1.drewN u))
      have HSE : Hid _ := HSEC.out (w1.drewN 1) F1 ov1 Fo1 (H1.out.1.drewN 1) (H1.out.2.1.drewN 1) H1.out.2.2 HOK.out hne
      clear R1 hne
      go_upto_region 4 with (first
        | (go_at_call 18; refine Calls.mono HM0.out ?_; rintro e w' ⟨rfl, rfl⟩))
      refine wp_region_noPanic ?_
      go_region_with (first
        | (go_at_call 19; refine Calls.mono (HIX.out 1) ?_; rintro e w2 ⟨rfl, rfl⟩)
        | (go_at_call 17; refine Calls.mono HSE.out ?_; rintro e w2 ⟨rfl, hfin⟩))
      refine NoPanic.normal ?_
      go_end0
      exact ⟨rfl, hfin⟩
end Go.Proofs.Ybulkeaqa
