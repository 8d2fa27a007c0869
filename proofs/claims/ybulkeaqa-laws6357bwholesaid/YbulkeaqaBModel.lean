/- S6357B: the model's move. -/
import Derived.Test.YbulkeaqaBModT
import Derived.Deep.RegionHeld3
namespace Go.Proofs.Ybulkeaqa
open Go.RowKit Go.Shelf
set_option linter.unusedSimpArgs false
attribute [local go_sem] Oper.semAt_some

theorem bodyPost_imp {P : Program} {f : Func} {R R' : Ending → World → Prop} (h : ∀ e w, R e w → R' e w) (x : Exit) (a : Act) (w : World) (hb : bodyPost P f R x a w) : bodyPost P f R' x a w := by
  cases x with
  | normal => exact ⟨hb.1, hb.2.imp fun v hv => ⟨hv.1, h _ _ hv.2⟩⟩
  | ret => exact ⟨hb.1, hb.2.imp fun v hv => ⟨hv.1, h _ _ hv.2⟩⟩
  | panic c => exact ⟨hb.1, h _ _ hb.2⟩
  | outgrown => exact h _ _ hb
  | _ => exact hb
theorem and_i64 (i e : Nat) (hi : i < 1024) (he : e ≤ 10) : bits .and .i64 (i : Int) (((2 ^ e : Nat) : Int) - 1) = ((i % 2 ^ e : Nat) : Int) := by
  have hp : 0 < 2 ^ e := Nat.two_pow_pos e
  have hp2 : 2 ^ e ≤ 2 ^ 10 := Nat.pow_le_pow_right (by decide) he
  have e1 : (((2 ^ e : Nat) : Int) - 1) = ((2 ^ e - 1 : Nat) : Int) := by omega
  have hx : i &&& (2 ^ e - 1) < 2 ^ 62 := Nat.and_lt_two_pow _ (by omega)
  have h1 : (BitVec.ofInt 64 (i : Int)).toNat = i := by
    rw [BitVec.ofInt_natCast, BitVec.toNat_ofNat]; exact Nat.mod_eq_of_lt (by omega)
  have h2 : (BitVec.ofInt 64 ((2 ^ e - 1 : Nat) : Int)).toNat = 2 ^ e - 1 := by
    rw [BitVec.ofInt_natCast, BitVec.toNat_ofNat]; exact Nat.mod_eq_of_lt (by omega)
  rw [e1]
  show IntKind.i64.wrap ((BitVec.ofInt 64 (i : Int) &&& BitVec.ofInt 64 ((2 ^ e - 1 : Nat) : Int)).toNat : Int) = _
  rw [BitVec.toNat_and, h1, h2, IntKind.wrap_i64, ← Nat.and_two_pow_sub_one_eq_mod]
  omega

/-- Between two rounds of the model's loop. -/
structure Zq (z : ZG) (g : Geo) (w0 : World) (p : Pl) (V : Nat → Value) (s : St) (wr : World) (V' : Nat → Value) : Prop where
  zr : Row wr z.Bz 10 28 (zF z g.oldN g.newN p.nx false p.mig s.ovc s.cl)
  nr : Row wr z.Bnl g.newN 32 V'
  ol : ∀ i, V' (g.newN + i) = V (g.newN + i)
  ls : Lists wr z.base (g.newN + g.oldN) V' (LL g.newN s.L p.O)
  k : K31 z.base w0.heap.size (fun b => b = z.Bz ∨ b = z.Bnl) w0 wr

theorem Zq.alloc {z : ZG} {g : Geo} {w0 : World} {p : Pl} {V : Nat → Value} {s : St} {wr : World} {V' : Nat → Value} (h : Zq z g w0 p V s wr V') (o : Obj) : Zq z g w0 p V s (wr.alloc o) V' := ⟨h.zr.alloc o, h.nr.alloc o, h.ol, h.ls.alloc o, h.k.alloc h.k.size o⟩
theorem Zq.drewN {z : ZG} {g : Geo} {w0 : World} {p : Pl} {V : Nat → Value} {s : St} {wr : World} {V' : Nat → Value} (h : Zq z g w0 p V s wr V') (q : Nat) : Zq z g w0 p V s (wr.drewN q) V' := ⟨h.zr.drewN q, h.nr.drewN q, h.ol, h.ls.drewN q, h.k.drewN q⟩
theorem Zq.hc {z : ZG} {g : Geo} {w0 : World} {p : Pl} {V : Nat → Value} {s : St} {wr : World} {V' : Nat → Value} (h : Zq z g w0 p V s wr V') (c : Nat) : Zq z g w0 p V ⟨s.L, s.ovc, c⟩ (wr.setCell ⟨z.Bz, 9, none⟩ (.int .i64 c)) V' :=
  ⟨(h.zr.set _).congr (fun k hk => zF_hc _ _ _ _ _ _ _ _ c k hk), h.nr.other _ (h.nr.ne h.zr (by decide)), h.ol, h.ls.set h.zr (by decide) _, h.k.set _ (.inr (.inl rfl))⟩
theorem Zq.ov {z : ZG} {g : Geo} {w0 : World} {p : Pl} {V : Nat → Value} {s : St} {wr : World} {V' : Nat → Value} (h : Zq z g w0 p V s wr V') (c : Nat) : Zq z g w0 p V ⟨s.L, c, s.cl⟩ (wr.setCell ⟨z.Bz, 8, none⟩ (.int .i64 c)) V' :=
  ⟨(h.zr.set _).congr (fun k hk => zF_ov _ _ _ _ _ _ _ _ c k hk), h.nr.other _ (h.nr.ne h.zr (by decide)), h.ol, h.ls.set h.zr (by decide) _, h.k.set _ (.inr (.inl rfl))⟩
theorem grown_row {w w' : World} {row : Option Nat} (hg : w.grownBy w' row) (hr : ∀ k, row = some k → ∃ a, w.heap[k]? = some (.cells a 31 (0, 0))) {b N : Nat} {t : TypeId} {F : Nat → Value} (h : Row w b N t F) (ht : t ≠ 31) : Row w' b N t F :=
  (hg.block b h.lt (fun e => by
    obtain ⟨a, ha⟩ := hr b e.symm
    have h' : w.heap[b]? = some (.cells (rowA N F) t (0, 0)) := h
    rw [h'] at ha
    injection ha with h3
    injection h3 with _ h4 _
    exact ht h4)).trans h
theorem Zq.append {z : ZG} {g : Geo} {w0 : World} {p : Pl} {V : Nat → Value} {s : St} {wa w2 : World} {V' : Nat → Value} (h : Zq z g w0 p V s wa V') {D : Nat} (hD : D < g.newN) {v' : Value} {e : Ent} (ho : w2.ownsRow z.base 31 3 v' ((s.L D).length + 1) (flat (s.L D) ++ cells3 e)) (hg : wa.grownBy w2 (V' D).ownBlock) (hat : ∀ k, v'.ownBlock = some k → (V' D).ownBlock = some k ∨ wa.heap.size ≤ k) :
    Zq z g w0 p V ⟨setL s.L D (s.L D ++ [e]), s.ovc, s.cl⟩ (w2.setCell ⟨z.Bnl, D, none⟩ v') (upd V' D v') := by
  have hk : ∀ k, (V' D).ownBlock = some k → ∃ a, wa.heap[k]? = some (.cells a 31 (0, 0)) := fun k hk => (h.ls.kind (by omega) hk).2
  have hz := grown_row hg hk h.zr (by decide)
  have hn := grown_row hg hk h.nr (by decide)
  have hl := h.ls.append (d := D) (by omega) (by rw [LL_new hD]; exact ho) hg hat
  rw [LL_new hD, LL_setL hD] at hl
  exact ⟨hz.other _ (hz.ne hn (by decide)), hn.set _, fun i => by rw [upd_ne _ _ (by omega)]; exact h.ol i, hl.set hn (by decide) _, (h.k.grown hg h.k.size (fun k hk2 => ⟨h.ls.low (by omega) hk2, hk k hk2⟩)).set _ (.inr (.inr rfl))⟩
def entA (e : Ent) : Array Value := #[.int .u8 e.t, .int .u64 e.k, .int .i64 e.v]
theorem ent_row (w : World) (e : Ent) : Row (w.alloc (.cells (entA e) 31)) w.heap.size 3 31 (fun j => (entA e).getD j undef) := Row.new w (entA e) 31 _ (fun j hj => by
  have h9 : j < 3 := hj
  rcases (show j = 0 ∨ j = 1 ∨ j = 2 by omega) with rfl | rfl | rfl <;> rfl)

set_option maxHeartbeats 4000000 in
set_option maxRecDepth 100000 in
theorem model_move {z : ZG} {g : Geo} {w : World} {p : Pl} {m i : Nat} {V : Nat → Value} (hg : g.Ok) (hp : p.Ok g m) (hm : m ≤ 400000) (hs : MZ z g w p V) (hi : i < g.oldN) (hnx : p.nx < g.oldN) :
    Calls Yba.prog 8 #[.pointer (some ⟨z.Bz, 0, none⟩), .int .i64 i] w fun e w' => e = .returned (.tuple #[]) ∧ ∃ V', MZ z g w' (moveP g p i) V' ∧ K31 z.base w.heap.size (fun b => b = z.Bz ∨ b = z.Bv ∨ b = z.Bol ∨ b = z.Bnl) w w' := by
  have hz0 : Row w z.Bz 10 28 (zF z g.oldN g.newN p.nx false p.mig p.ovc p.cl) := by
    have := hs.zr
    rwa [decide_eq_false (show ¬ p.nx = g.oldN by omega)] at this
  have hbs : bits .and .i64 (i : Int) ((g.newN : Int) - 1) = ((i % g.newN : Nat) : Int) := by
    have := and_i64 i g.e1 (by have := hg.o3; omega) (by have := hg.n2; omega)
    rw [← hg.n1] at this; exact this
  have H31 : Hid (∃ i31, Yba.prog.info? 31 = some i31 ∧ i31.zero = some (.agg #[.int .u8 0, .int .u64 0, .int .i64 0]) ∧ i31.size = 3 ∧ i31.bytes = 24) := info_parts (P := Yba.prog) (t := 31) (z := .agg #[.int .u8 0, .int .u64 0, .int .i64 0]) (s := 3) (b := 24) (by kernel_rfl)
  have hsp := hg.hsp2
  have hn3 := hg.n3
  have hn4 := hg.n4
  have ho3 := hg.o3
  have HBL : Hid (i % g.newN < 100) := by have := Nat.mod_lt i hn4; show _ < _; omega
  generalize hbb : i % g.newN = bs at hbs HBL
  have HBB : Hid (i % g.newN = bs) := hbb
  have z0 : w.cell? ⟨z.Bz, 0, none⟩ = some (.int .i64 g.oldN) := hz0.cell (by omega)
  have z1 : w.cell? ⟨z.Bz, 1, none⟩ = some (.int .i64 g.newN) := hz0.cell (by omega)
  have z3 : w.cell? ⟨z.Bz, 3, none⟩ = some (.slice (some ⟨z.Bol, 0, none⟩) g.oldN g.oldN) := hz0.cell (by omega)
  obtain ⟨sA, Bl, c, hv, hLv, hob⟩ := hs.ls.lv (j := g.newN + i) (by omega)
  rw [LL_old] at hv hLv hob
  have zo : w.cell? ⟨z.Bol, i, none⟩ = some (.slice sA (p.O i).length c) := by rw [hs.orr.cell hi, hv]
  have HZ0 : Hid (Row w z.Bz 10 28 (zF z g.oldN g.newN p.nx false p.mig p.ovc p.cl)) := hz0
  have HS : Hid _ := hs
  have HG : Hid _ := hg
  have HP : Hid _ := hp
  have HV : Hid (V (g.newN + i) = .slice sA (p.O i).length c ∧ Lv w sA Bl (p.O i) ∧ (0 < (p.O i).length → (V (g.newN + i)).ownBlock = some Bl)) := ⟨hv, hLv, hob⟩
  have hol := hp.o1 i
  clear hz0 hs hg hp hv hLv hob hbb
  go_enter Yba.func8, Yba.ntmps8
  go_upto_region 1 with (fail)
  go_quiet (fail)
  have y3 : (w.drewN nq).cell? ⟨z.Bz, 3, none⟩ = some (.slice (some ⟨z.Bol, 0, none⟩) g.oldN g.oldN) := z3
  have yo : (w.drewN nq).cell? ⟨z.Bol, i, none⟩ = some (.slice sA (p.O i).length c) := zo
  go_wp2_with fail
  go_loopw [36] (fun v wr => ∃ q : Nat, q ≤ (p.O i).length ∧ v = .int .i64 q ∧ ∃ V', Zq z g w p V (stQ bs g.sp ⟨p.L, p.ovc, p.cl⟩ (p.O i) q) wr V') (fun v _ => (p.O i).length - (intOf v).toNat)
  case atStart =>
    exact ⟨0, Nat.zero_le _, rfl, V, by rw [stQ_zero]; exact HZ0.out.drewN nq, HS.out.nr.drewN nq, fun _ => rfl, by rw [stQ_zero]; exact HS.out.ls.drewN nq, (K31.refl _ _ _ w).drewN nq⟩
  case round =>
    obtain ⟨q, hq, rfl, V', hZq⟩ := hrel
    have HQ : Hid _ := hZq
    by_cases hlt : q < (p.O i).length
    · obtain ⟨sA', Bl', c', hv', hLv', _⟩ := hZq.ls.lv (j := g.newN + i) (by omega)
      rw [LL_old, hZq.ol, HV.out.1] at hv'
      rw [LL_old] at hLv'
      injection hv' with hsa _ hcc
      subst hcc
      subst hsa
      have ea := hLv'.at_ (by omega)
      subst ea
      have c0 := hLv'.tag q hlt
      have c1 := hLv'.key q hlt
      have c2 := hLv'.val q hlt
      have HKB : Hid (ky (p.O i) q < 18446744073709551616) := by
        have := (HP.out.ook i _ (List.getElem_mem hlt)).k1; rw [ent_at hlt] at this; exact this
      have HDS : Hid (destOf bs g.sp (ky (p.O i) q) < g.newN) := by rw [← HBB.out]; exact HG.out.dest i _ hi
      have hlz := (HP.out.l1 : ∀ j, (p.L j).length ≤ m)
      have hsb := stQ_bound bs g.sp ⟨p.L, p.ovc, p.cl⟩ (p.O i) q hq
      have HSB : Hid ((stQ bs g.sp ⟨p.L, p.ovc, p.cl⟩ (p.O i) q).ovc ≤ 900000 ∧ (stQ bs g.sp ⟨p.L, p.ovc, p.cl⟩ (p.O i) q).cl ≤ 900000 ∧ ∀ j, ((stQ bs g.sp ⟨p.L, p.ovc, p.cl⟩ (p.O i) q).L j).length ≤ 900000) := by
        have h1 : (stQ bs g.sp ⟨p.L, p.ovc, p.cl⟩ (p.O i) q).ovc ≤ p.ovc + q := hsb.1
        have h2 : (stQ bs g.sp ⟨p.L, p.ovc, p.cl⟩ (p.O i) q).cl ≤ p.cl + q := hsb.2.1
        have h4 := HP.out.v1
        have h5 := HP.out.c1
        refine ⟨by omega, by omega, fun j => ?_⟩
        have h3 : ((stQ bs g.sp ⟨p.L, p.ovc, p.cl⟩ (p.O i) q).L j).length ≤ (p.L j).length + q := hsb.2.2 j
        have h6 := hlz j
        omega
      have HST : Hid (stQ bs g.sp ⟨p.L, p.ovc, p.cl⟩ (p.O i) (q + 1) = stepE bs g.sp (stQ bs g.sp ⟨p.L, p.ovc, p.cl⟩ (p.O i) q) ⟨tg (p.O i) q, ky (p.O i) q, vl (p.O i) q⟩) := by
        rw [stQ_succ _ _ _ _ _ hlt, ent_at hlt]; exact rfl
      generalize stQ bs g.sp ⟨p.L, p.ovc, p.cl⟩ (p.O i) q = sq at HQ HSB HST
      clear hZq hLv' hlz hsb y3 yo z0 z1 z3 zo hsp hbs
      go_upto_region 5 with (fail)
      have E1 := ent_row wr ⟨tg (p.O i) q, ky (p.O i) q, vl (p.O i) q⟩
      have Q1 := HQ.out.alloc (.cells (entA ⟨tg (p.O i) q, ky (p.O i) q, vl (p.O i) q⟩) 31)
      have N1 : ∀ j k, j < g.newN + g.oldN → (V' j).ownBlock = some k → k ≠ wr.heap.size := fun j k hj hk => Nat.ne_of_lt (HQ.out.ls.kind hj hk).1
      unfold entA at E1 Q1
      generalize wr.alloc (.cells #[.int .u8 (tg (p.O i) q : Nat), .int .u64 (ky (p.O i) q : Nat), .int .i64 (vl (p.O i) q : Nat)] 31) = w1 at E1 Q1 ⊢
      generalize hBe : wr.heap.size = Be at E1 N1 ⊢
      have H1 : Hid (Zq z g w p V sq w1 V' ∧ Row w1 Be 3 31 (fun j => (#[.int .u8 (tg (p.O i) q : Nat), .int .u64 (ky (p.O i) q : Nat), .int .i64 (vl (p.O i) q : Nat)] : Array Value).getD j undef) ∧ ∀ j k, j < g.newN + g.oldN → (V' j).ownBlock = some k → k ≠ Be) := ⟨Q1, E1, N1⟩
      clear c0 c1 c2 E1 Q1 N1 hBe
      go_upto_if 42 with (fail)
      have HDD : Hid (destOf bs g.sp (ky (p.O i) q) = destOf bs g.sp (ky (p.O i) q)) := rfl
      generalize hD : destOf bs g.sp (ky (p.O i) q) = D at HDS
      have HDE : Hid (destOf bs g.sp (ky (p.O i) q) = D) := hD
      clear hD HDD
      go_cut [8] (fun v wc => v = .int .i64 (D : Nat) ∧ Zq z g w p V ⟨sq.L, sq.ovc, sq.cl + (if g.sp = 0 then 0 else 1)⟩ wc V' ∧ Row wc Be 3 31 (fun j => (#[.int .u8 (tg (p.O i) q : Nat), .int .u64 (ky (p.O i) q : Nat), .int .i64 (vl (p.O i) q : Nat)] : Array Value).getD j undef))
      case first =>
        by_cases hs0 : g.sp = 0
        · have hb : ((g.sp : Int) != 0) = false := by simp [hs0]
          have HS0 : Hid _ := hs0
          clear hs0
          go_wp2_with fail
          go_meet
          case rel =>
            refine ⟨?_, ?_, H1.out.2.1⟩
            · rw [← HDE.out]; unfold destOf; rw [if_pos HS0.out]
            · rw [if_pos HS0.out]; exact H1.out.1
        · have hb : ((g.sp : Int) != 0) = true := by simp; omega
          have HS0 : Hid (¬ g.sp = 0) := hs0
          have z9 : w1.cell? ⟨z.Bz, 9, none⟩ = some (.int .i64 sq.cl) := H1.out.1.zr.cell (by omega)
          have z9f := H1.out.1.zr.frozen (k := 9)
          have hne1 : Be ≠ z.Bz := H1.out.2.1.ne H1.out.1.zr (by decide)
          have hne2 : z.Bz ≠ Be := Ne.symm hne1
          have b1 : w1.cell? ⟨Be, 1, none⟩ = some (.int .u64 (ky (p.O i) q)) := H1.out.2.1.cell (k := 1) (by omega)
          have hcl : sq.cl ≤ 900000 := HSB.out.2.1
          have HA1 : bits .and .u64 (ky (p.O i) q : Int) (g.sp : Int) = ((ky (p.O i) q &&& g.sp : Nat) : Int) := bits_and_u64_nat _ _ HKB.out (by have := HG.out.spb; omega)
          have hml : ky (p.O i) q &&& g.sp < 1024 := Nat.lt_of_le_of_lt Nat.and_le_right HG.out.spb
          have HOR : bits .or .i64 (bs : Int) ((ky (p.O i) q &&& g.sp : Nat) : Int) = ((bs ||| (ky (p.O i) q &&& g.sp) : Nat) : Int) := or_i64_nat _ _ (by have := HBL.out; omega) (by omega)
          have hED : bs ||| (ky (p.O i) q &&& g.sp) = D := (destOf_or hs0).trans HDE.out
          rw [hED] at HOR
          have hwsp : IntKind.u64.wrap (g.sp : Int) = g.sp := by rw [IntKind.wrap_u64]; have := HG.out.spb; omega
          generalize ky (p.O i) q &&& g.sp = mm at HA1 hml HOR hED
          have hw1 : wrap64 (mm : Int) = mm := wrap_m hml
          have hw2 : IntKind.i64.wrap (mm : Int) = mm := wrap_m3 hml
          clear hs0 hED
          go_wp2_with fail
          go_meet
          case rel =>
            refine ⟨rfl, ?_, H1.out.2.1.other _ hne1⟩
            rw [if_neg HS0.out]
            exact H1.out.1.hc (sq.cl + 1)
      case rest =>
        obtain ⟨rfl, hZ2, hE2⟩ := hcut
        rename World => wc
        obtain ⟨sD, BlD, cD, hvD, hLvD, _⟩ := hZ2.ls.lv (j := D) (by have := HDS.out; omega)
        rw [LL_new HDS.out] at hvD hLvD
        have HVD : Hid (V' D = .slice sD (sq.L D).length cD) := hvD
        have H2 : Hid (Zq z g w p V ⟨sq.L, sq.ovc, sq.cl + (if g.sp = 0 then 0 else 1)⟩ wc V' ∧ Row wc Be 3 31 (fun j => (#[.int .u8 (tg (p.O i) q : Nat), .int .u64 (ky (p.O i) q : Nat), .int .i64 (vl (p.O i) q : Nat)] : Array Value).getD j undef)) := ⟨hZ2, hE2⟩
        have z4 : wc.cell? ⟨z.Bz, 4, none⟩ = some (.slice (some ⟨z.Bnl, 0, none⟩) g.newN g.newN) := hZ2.zr.cell (by omega)
        have n4 : wc.cell? ⟨z.Bnl, D, none⟩ = some (.slice sD (sq.L D).length cD) := by rw [hZ2.nr.cell HDS.out, hvD]
        have hdl := HDS.out
        have hlen : (sq.L D).length ≤ 900000 := HSB.out.2.2 D
        have HN1 : Hid _ := H1.out.2.2
        clear hZ2 hE2 hvD hLvD H1
        go_upto_region 10 with (fail)
        generalize hll : (sq.L D).length = lD at n4 hlen ⊢
        have HLL : Hid ((sq.L D).length = lD) := hll
        clear hll
        go_cut [72] (fun v wx => v = .bool (decide (0 < lD ∧ lD % 8 = 0)) ∧ wx = wc)
        case first =>
          by_cases hk0 : lD = 0
          · have hb1 : decide (0 < lD) = false := decide_eq_false (by omega)
            have hb3 : ¬ 0 < lD := by omega
            have HB9 : Hid (decide (0 < lD ∧ lD % 8 = 0) = false) := decide_eq_false (by omega)
            clear hk0
            go_wp2_with fail
            go_meet
            case rel => exact ⟨by rw [HB9.out], rfl⟩
          · have hb1 : decide (0 < lD) = true := decide_eq_true (by omega)
            have hb3 : 0 < lD := by omega
            have HB9 : Hid (decide (0 < lD ∧ lD % 8 = 0) = ((lD : Int) % 8 == 0)) := by
              show _ = _
              rw [Bool.eq_iff_iff]; simp; omega
            clear hk0
            go_wp2_with fail
            go_meet
            case rel => exact ⟨by rw [HB9.out], rfl⟩
        case rest =>
          obtain ⟨rfl, rfl⟩ := hcut
          go_upto_if 72 with (fail)
          go_cut [] (fun wx => Zq z g w p V ⟨sq.L, sq.ovc + (if 0 < lD ∧ lD % 8 = 0 then 1 else 0), sq.cl + (if g.sp = 0 then 0 else 1)⟩ wx V' ∧ Row wx Be 3 31 (fun j => (#[.int .u8 (tg (p.O i) q : Nat), .int .u64 (ky (p.O i) q : Nat), .int .i64 (vl (p.O i) q : Nat)] : Array Value).getD j undef))
          case first =>
            by_cases hf : 0 < lD ∧ lD % 8 = 0
            · have hb : decide (0 < lD ∧ lD % 8 = 0) = true := decide_eq_true hf
              have HF : Hid _ := hf
              have z8 : wc.cell? ⟨z.Bz, 8, none⟩ = some (.int .i64 sq.ovc) := H2.out.1.zr.cell (by omega)
              have z8f := H2.out.1.zr.frozen (k := 8)
              have hov : sq.ovc ≤ 900000 := HSB.out.1
              clear hf
              go_wp2_with fail
              go_meet
              case rel =>
                rw [if_pos HF.out]
                exact ⟨H2.out.1.ov (sq.ovc + 1), H2.out.2.other _ (H2.out.2.ne H2.out.1.zr (by decide))⟩
            · have hb : decide (0 < lD ∧ lD % 8 = 0) = false := decide_eq_false hf
              have HF : Hid _ := hf
              clear hf
              go_wp2_with fail
              go_meet
              case rel =>
                rw [if_neg HF.out]
                exact H2.out
          case rest =>
            obtain ⟨hZ3, hE3⟩ := hcut
            rename World => wx
            have hSW : (fun w' : World => w'.cell? ⟨z.Bz, 4, none⟩ = some (.slice (some ⟨z.Bnl, 0, none⟩) g.newN g.newN) ∧ w'.cell? ⟨Be, 0, none⟩ = some (.int .u8 (tg (p.O i) q : Nat)) ∧ w'.cell? ⟨Be, 1, none⟩ = some (.int .u64 (ky (p.O i) q : Nat)) ∧ w'.cell? ⟨Be, 2, none⟩ = some (.int .i64 (vl (p.O i) q : Nat))) wx.drew := ⟨hZ3.zr.cell (by omega), hE3.cell (k := 0) (by omega), hE3.cell (k := 1) (by omega), hE3.cell (k := 2) (by omega)⟩
            have n5 : wx.drew.cell? ⟨z.Bnl, D, none⟩ = some (.slice sD lD cD) := by
              show wx.cell? _ = _
              rw [hZ3.nr.cell HDS.out, HVD.out, HLL.out]
            have H3 : Hid (Zq z g w p V ⟨sq.L, sq.ovc + (if 0 < lD ∧ lD % 8 = 0 then 1 else 0), sq.cl + (if g.sp = 0 then 0 else 1)⟩ wx V' ∧ Row wx Be 3 31 (fun j => (#[.int .u8 (tg (p.O i) q : Nat), .int .u64 (ky (p.O i) q : Nat), .int .i64 (vl (p.O i) q : Nat)] : Array Value).getD j undef)) := ⟨hZ3, hE3⟩
            have hne5 : z.Bnl ≠ Be := H3.out.1.nr.ne H3.out.2 (by decide)
            clear hZ3 hE3 z4 n4
            go_upto_region 12 with (fail)
            refine wp_region_noPanic ?_
            refine wp_region_held_drew (S := (fun w' : World => w'.cell? ⟨z.Bz, 4, none⟩ = some (.slice (some ⟨z.Bnl, 0, none⟩) g.newN g.newN) ∧ w'.cell? ⟨Be, 0, none⟩ = some (.int .u8 (tg (p.O i) q : Nat)) ∧ w'.cell? ⟨Be, 1, none⟩ = some (.int .u64 (ky (p.O i) q : Nat)) ∧ w'.cell? ⟨Be, 2, none⟩ = some (.int .i64 (vl (p.O i) q : Nat)))) (by kernel_rfl) hSW (fun _ => ?_)
            refine wpAnyH_take (i := 0) (v := .pointer (some ⟨z.Bz, 0, none⟩)) rfl (by kernel_rfl) (by kernel_rfl) (by kernel_rfl) (fun _ _ _ h => h) (Or.inl ⟨by rfl, ?_⟩) hSW ?_
            · rintro w' ⟨k1, k2, k3, k4⟩; go_simp
            refine wpAnyH_take (i := 1) (v := .pointer (some ⟨z.Bz, 0, none⟩)) rfl (by kernel_rfl) (by kernel_rfl) (by kernel_rfl) (fun _ _ _ h => h) (Or.inl ⟨by rfl, ?_⟩) hSW ?_
            · rintro w' ⟨k1, k2, k3, k4⟩; go_simp
            refine wpAnyH_take (i := 2) (v := .pointer (some ⟨z.Bz, 4, none⟩)) rfl (by kernel_rfl) (by kernel_rfl) (by kernel_rfl) (fun _ _ _ h => h) (Or.inl ⟨by rfl, ?_⟩) hSW ?_
            · rintro w' ⟨k1, k2, k3, k4⟩; go_simp
            refine wpAnyH_take (i := 3) (v := (.slice (some ⟨z.Bnl, 0, none⟩) g.newN g.newN)) rfl (by kernel_rfl) (by kernel_rfl) (by kernel_rfl) (fun _ _ _ h => h) (Or.inl ⟨by rfl, ?_⟩) hSW ?_
            · rintro w' ⟨k1, k2, k3, k4⟩; go_simp
            refine wpAnyH_take (i := 4) (v := .int .i64 (D : Nat)) rfl (by kernel_rfl) (by kernel_rfl) (by kernel_rfl) (fun _ _ _ h => h) (Or.inl ⟨by rfl, ?_⟩) hSW ?_
            · rintro w' ⟨k1, k2, k3, k4⟩; go_simp
            refine wpAnyH_take (i := 5) (v := .pointer (some ⟨z.Bz, 0, none⟩)) rfl (by kernel_rfl) (by kernel_rfl) (by kernel_rfl) (fun _ _ _ h => h) (Or.inl ⟨by rfl, ?_⟩) hSW ?_
            · rintro w' ⟨k1, k2, k3, k4⟩; go_simp
            refine wpAnyH_take (i := 6) (v := .pointer (some ⟨z.Bz, 0, none⟩)) rfl (by kernel_rfl) (by kernel_rfl) (by kernel_rfl) (fun _ _ _ h => h) (Or.inl ⟨by rfl, ?_⟩) hSW ?_
            · rintro w' ⟨k1, k2, k3, k4⟩; go_simp
            refine wpAnyH_take (i := 7) (v := .pointer (some ⟨z.Bz, 4, none⟩)) rfl (by kernel_rfl) (by kernel_rfl) (by kernel_rfl) (fun _ _ _ h => h) (Or.inl ⟨by rfl, ?_⟩) hSW ?_
            · rintro w' ⟨k1, k2, k3, k4⟩; go_simp
            refine wpAnyH_take (i := 8) (v := (.slice (some ⟨z.Bnl, 0, none⟩) g.newN g.newN)) rfl (by kernel_rfl) (by kernel_rfl) (by kernel_rfl) (fun _ _ _ h => h) (Or.inl ⟨by rfl, ?_⟩) hSW ?_
            · rintro w' ⟨k1, k2, k3, k4⟩; go_simp
            refine wpAnyH_take (i := 9) (v := .int .i64 (D : Nat)) rfl (by kernel_rfl) (by kernel_rfl) (by kernel_rfl) (fun _ _ _ h => h) (Or.inl ⟨by rfl, ?_⟩) hSW ?_
            · rintro w' ⟨k1, k2, k3, k4⟩; go_simp
            refine wpAnyH_take (i := 10) (v := .pointer (some ⟨z.Bnl, D, none⟩)) rfl (by kernel_rfl) (by kernel_rfl) (by kernel_rfl) (fun _ _ _ h => h) (Or.inl ⟨by rfl, ?_⟩) hSW ?_
            · rintro w' ⟨k1, k2, k3, k4⟩; go_simp
            refine wpAnyH_take (i := 12) (v := .agg #[.int .u8 (tg (p.O i) q : Nat), .int .u64 (ky (p.O i) q : Nat), .int .i64 (vl (p.O i) q : Nat)]) rfl (by kernel_rfl) (by kernel_rfl) (by kernel_rfl) (fun _ _ _ h => h) (Or.inl ⟨by rfl, ?_⟩) hSW ?_
            · rintro w' ⟨k1, k2, k3, k4⟩; go_simp
            have hQA := (H3.out.1.drewN 1).alloc (.cells (entA ⟨tg (p.O i) q, ky (p.O i) q, vl (p.O i) q⟩) 31)
            have hnb : (wx.drew.alloc (.cells (entA ⟨tg (p.O i) q, ky (p.O i) q, vl (p.O i) q⟩) 31)).heap[wx.heap.size]? = some (.cells (entA ⟨tg (p.O i) q, ky (p.O i) q, vl (p.O i) q⟩) 31 (0, 0)) := (MapKept.heap_alloc wx.drew _).1
            have hSA : (fun w' : World => w'.cell? ⟨z.Bz, 4, none⟩ = some (.slice (some ⟨z.Bnl, 0, none⟩) g.newN g.newN) ∧ w'.cell? ⟨Be, 0, none⟩ = some (.int .u8 (tg (p.O i) q : Nat)) ∧ w'.cell? ⟨Be, 1, none⟩ = some (.int .u64 (ky (p.O i) q : Nat)) ∧ w'.cell? ⟨Be, 2, none⟩ = some (.int .i64 (vl (p.O i) q : Nat))) (wx.drew.alloc (.cells (entA ⟨tg (p.O i) q, ky (p.O i) q, vl (p.O i) q⟩) 31)) := ⟨((Stay.refl wx.heap.size (fun _ => False) wx.drew).alloc (Nat.le_refl _) _).some hSW.1, ((Stay.refl wx.heap.size (fun _ => False) wx.drew).alloc (Nat.le_refl _) _).some hSW.2.1, ((Stay.refl wx.heap.size (fun _ => False) wx.drew).alloc (Nat.le_refl _) _).some hSW.2.2.1, ((Stay.refl wx.heap.size (fun _ => False) wx.drew).alloc (Nat.le_refl _) _).some hSW.2.2.2⟩
            have hownA : (wx.drew.alloc (.cells (entA ⟨tg (p.O i) q, ky (p.O i) q, vl (p.O i) q⟩) 31)).ownsRow z.base 31 3 (.slice sD lD cD) lD (flat (sq.L D)) := by
              have h9 := hQA.ls.own D (by omega)
              rw [LL_new HDS.out, HVD.out, HLL.out] at h9
              exact h9
            have hbsA : z.base ≤ (wx.drew.alloc (.cells (entA ⟨tg (p.O i) q, ky (p.O i) q, vl (p.O i) q⟩) 31)).heap.size := by have h8 := H3.out.1.k.size; have h7 := HS.out.bs; simp; omega
            obtain ⟨i31, hi31, hz31, hs31, hb31⟩ := H31.out
            have HQA : Hid _ := hQA
            unfold entA at hQA hnb hSA hownA hbsA
            refine wpAnyH_ready (rs := [11, 13]) (by kernel_rfl) (by simp) ?_
            refine AllReadyH.cons rfl (fun K hK => ?_) (AllReadyH.cons rfl (fun K hK => ?_) AllReadyH.nil)
            · go_simp
              refine hK.out _ _ hSW (fun _ => ?_)
              clear hK K
              refine wpAnyH_ready (rs := [13]) (by kernel_rfl) (by simp) ?_
              refine AllReadyH.cons rfl (fun K hK => ?_) AllReadyH.nil
              go_simp
              refine hK.out _ _ hSA (fun _ => ?_)
              clear hK K
              refine wpAnyH_ready (rs := [14]) (by kernel_rfl) (by simp) ?_
              refine AllReadyH.cons rfl (fun K hK => ?_) AllReadyH.nil
              refine step_append_lies _ rfl _ _ 32 rfl z.base 31 i31 _ 3 24 Yba.underlying32 hi31 hz31 hs31 hb31 rfl (by decide) (.slice sD lD cD) lD (flat (sq.L D)) rfl hownA ⟨wx.heap.size, 0, none⟩ 1 1 (cells3 ⟨tg (p.O i) q, ky (p.O i) q, vl (p.O i) q⟩) rfl rfl (World.news_of_block (cs := entA ⟨tg (p.O i) q, ky (p.O i) q, vl (p.O i) q⟩) (t := 31) (fr := (0, 0)) hnb) (by simp [cells3, Value.oneCell']) (by decide) (by have := hlen; simp only [maxLen]; omega) (by omega) hbsA _ rfl ?_
              intro g9 cap9 w2 hown2 hgrow hat hlt2
              have hk9 : ∀ k, (Value.slice sD lD cD).ownBlock = some k → ∃ a, (wx.drew.alloc (.cells (entA ⟨tg (p.O i) q, ky (p.O i) q, vl (p.O i) q⟩) 31)).heap[k]? = some (.cells a 31 (0, 0)) := fun k hk => (HQA.out.ls.kind (j := D) (by omega) (by rw [HVD.out, HLL.out]; exact hk)).2
              have Q2 := HQA.out.append HDS.out (e := ⟨tg (p.O i) q, ky (p.O i) q, vl (p.O i) q⟩) (v' := .slice (some ⟨g9, 0, none⟩) (lD + 1) cap9) (by rw [HLL.out]; exact hown2) (by rw [HVD.out, HLL.out]; exact hgrow) (fun k hk => by
                have e9 : g9 = k := by simpa [Value.ownBlock] using hk
                rw [HVD.out, HLL.out, ← e9]
                rcases hat with h8 | h8
                · exact .inl h8
                · exact .inr (Nat.le_of_eq h8.symm))
              have zr2 := grown_row hgrow hk9 HQA.out.zr (by decide)
              have nr2 := grown_row hgrow hk9 HQA.out.nr (by decide)
              have hbe : w2.heap[Be]? = wx.heap[Be]? := (hgrow.block Be (by have := H3.out.2.lt; simp; omega) (fun e => by
                have h7 := HN1.out D Be (by omega) (by rw [HVD.out, HLL.out]; exact e.symm)
                exact h7 rfl)).trans ((MapKept.heap_alloc wx.drew _).2 Be H3.out.2.lt)
              have hS2 : (fun w' : World => w'.cell? ⟨z.Bz, 4, none⟩ = some (.slice (some ⟨z.Bnl, 0, none⟩) g.newN g.newN) ∧ w'.cell? ⟨Be, 0, none⟩ = some (.int .u8 (tg (p.O i) q : Nat)) ∧ w'.cell? ⟨Be, 1, none⟩ = some (.int .u64 (ky (p.O i) q : Nat)) ∧ w'.cell? ⟨Be, 2, none⟩ = some (.int .i64 (vl (p.O i) q : Nat))) w2 := ⟨zr2.cell (by omega), (World.cell?_of_block (a := ⟨Be, 0, none⟩) hbe).trans hSW.2.1, (World.cell?_of_block (a := ⟨Be, 1, none⟩) hbe).trans hSW.2.2.1, (World.cell?_of_block (a := ⟨Be, 2, none⟩) hbe).trans hSW.2.2.2⟩
              have nc2 := nr2.cell (k := D) HDS.out
              have nf2 := nr2.frozen (k := D)
              have hzn := zr2.ne nr2 (by decide)
              have HQ2 : Hid _ := Q2
              refine hK.out _ _ hS2 (fun _ => ?_)
              clear hK K Q2 zr2 nr2 hk9 hbe hown2 hgrow hat hlt2 hSA n5 hnb hownA hbsA hQA hi31 hz31 hs31 hb31 
              refine wpAnyH_take (i := 15) (v := .pointer (some ⟨z.Bnl, D, none⟩)) rfl (by kernel_rfl) (by kernel_rfl) (by kernel_rfl) (fun _ _ _ h => h) (Or.inl ⟨by rfl, ?_⟩) hS2 ?_
              · rintro w' ⟨k1, k2, k3, k4⟩; go_simp
              refine wpAnyH_ready (rs := [16]) (by kernel_rfl) (by simp) ?_
              refine AllReadyH.cons rfl (fun K hK => ?_) AllReadyH.nil
              go_simp
              have hS3 : (fun w' : World => w'.cell? ⟨z.Bz, 4, none⟩ = some (.slice (some ⟨z.Bnl, 0, none⟩) g.newN g.newN) ∧ w'.cell? ⟨Be, 0, none⟩ = some (.int .u8 (tg (p.O i) q : Nat)) ∧ w'.cell? ⟨Be, 1, none⟩ = some (.int .u64 (ky (p.O i) q : Nat)) ∧ w'.cell? ⟨Be, 2, none⟩ = some (.int .i64 (vl (p.O i) q : Nat))) (w2.setCell ⟨z.Bnl, D, none⟩ (.slice (some ⟨g9, 0, none⟩) (lD + 1) cap9)) := ⟨(World.cell?_of_block (a := ⟨z.Bz, _, none⟩) (Below.heap_setCell w2 _ _ _ hzn)).trans hS2.1, (World.cell?_of_block (a := ⟨Be, _, none⟩) (Below.heap_setCell w2 _ _ _ (Ne.symm hne5))).trans hS2.2.1, (World.cell?_of_block (a := ⟨Be, _, none⟩) (Below.heap_setCell w2 _ _ _ (Ne.symm hne5))).trans hS2.2.2.1, (World.cell?_of_block (a := ⟨Be, _, none⟩) (Below.heap_setCell w2 _ _ _ (Ne.symm hne5))).trans hS2.2.2.2⟩
              refine hK.out _ _ hS3 (fun _ => ?_)
              clear hK K hS2 hS3 nc2 nf2
              refine wpAnyH_done (by kernel_rfl) ?_ _
              refine NoPanic.normal ?_
              go_wp2_with fail
              refine ⟨⟨q + 1, by omega, by go_num, upd V' D (.slice (some ⟨g9, 0, none⟩) (lD + 1) cap9), ?_⟩, by simp [intOf]; omega⟩
              rw [HST.out]
              have h9 := HQ2.out
              unfold stepE
              simp only [HDE.out, HLL.out]
              exact h9
            · go_simp
              refine hK.out _ _ hSA (fun _ => ?_)
              clear hK K
              have n6 : (wx.alloc (.cells #[.int .u8 (tg (p.O i) q : Nat), .int .u64 (ky (p.O i) q : Nat), .int .i64 (vl (p.O i) q : Nat)] 31)).drew.cell? ⟨z.Bnl, D, none⟩ = some (.slice sD lD cD) := ((Stay.refl wx.heap.size (fun _ => False) wx.drew).alloc (Nat.le_refl _) _).some n5
              refine wpAnyH_ready (rs := [11]) (by kernel_rfl) (by simp) ?_
              refine AllReadyH.cons rfl (fun K hK => ?_) AllReadyH.nil
              go_simp
              refine hK.out _ _ hSA (fun _ => ?_)
              clear hK K n6
              refine wpAnyH_ready (rs := [14]) (by kernel_rfl) (by simp) ?_
              refine AllReadyH.cons rfl (fun K hK => ?_) AllReadyH.nil
              refine step_append_lies _ rfl _ _ 32 rfl z.base 31 i31 _ 3 24 Yba.underlying32 hi31 hz31 hs31 hb31 rfl (by decide) (.slice sD lD cD) lD (flat (sq.L D)) rfl hownA ⟨wx.heap.size, 0, none⟩ 1 1 (cells3 ⟨tg (p.O i) q, ky (p.O i) q, vl (p.O i) q⟩) rfl rfl (World.news_of_block (cs := entA ⟨tg (p.O i) q, ky (p.O i) q, vl (p.O i) q⟩) (t := 31) (fr := (0, 0)) hnb) (by simp [cells3, Value.oneCell']) (by decide) (by have := hlen; simp only [maxLen]; omega) (by omega) hbsA _ rfl ?_
              intro g9 cap9 w2 hown2 hgrow hat hlt2
              have hk9 : ∀ k, (Value.slice sD lD cD).ownBlock = some k → ∃ a, (wx.drew.alloc (.cells (entA ⟨tg (p.O i) q, ky (p.O i) q, vl (p.O i) q⟩) 31)).heap[k]? = some (.cells a 31 (0, 0)) := fun k hk => (HQA.out.ls.kind (j := D) (by omega) (by rw [HVD.out, HLL.out]; exact hk)).2
              have Q2 := HQA.out.append HDS.out (e := ⟨tg (p.O i) q, ky (p.O i) q, vl (p.O i) q⟩) (v' := .slice (some ⟨g9, 0, none⟩) (lD + 1) cap9) (by rw [HLL.out]; exact hown2) (by rw [HVD.out, HLL.out]; exact hgrow) (fun k hk => by
                have e9 : g9 = k := by simpa [Value.ownBlock] using hk
                rw [HVD.out, HLL.out, ← e9]
                rcases hat with h8 | h8
                · exact .inl h8
                · exact .inr (Nat.le_of_eq h8.symm))
              have zr2 := grown_row hgrow hk9 HQA.out.zr (by decide)
              have nr2 := grown_row hgrow hk9 HQA.out.nr (by decide)
              have hbe : w2.heap[Be]? = wx.heap[Be]? := (hgrow.block Be (by have := H3.out.2.lt; simp; omega) (fun e => by
                have h7 := HN1.out D Be (by omega) (by rw [HVD.out, HLL.out]; exact e.symm)
                exact h7 rfl)).trans ((MapKept.heap_alloc wx.drew _).2 Be H3.out.2.lt)
              have hS2 : (fun w' : World => w'.cell? ⟨z.Bz, 4, none⟩ = some (.slice (some ⟨z.Bnl, 0, none⟩) g.newN g.newN) ∧ w'.cell? ⟨Be, 0, none⟩ = some (.int .u8 (tg (p.O i) q : Nat)) ∧ w'.cell? ⟨Be, 1, none⟩ = some (.int .u64 (ky (p.O i) q : Nat)) ∧ w'.cell? ⟨Be, 2, none⟩ = some (.int .i64 (vl (p.O i) q : Nat))) w2 := ⟨zr2.cell (by omega), (World.cell?_of_block (a := ⟨Be, 0, none⟩) hbe).trans hSW.2.1, (World.cell?_of_block (a := ⟨Be, 1, none⟩) hbe).trans hSW.2.2.1, (World.cell?_of_block (a := ⟨Be, 2, none⟩) hbe).trans hSW.2.2.2⟩
              have nc2 := nr2.cell (k := D) HDS.out
              have nf2 := nr2.frozen (k := D)
              have hzn := zr2.ne nr2 (by decide)
              have HQ2 : Hid _ := Q2
              refine hK.out _ _ hS2 (fun _ => ?_)
              clear hK K Q2 zr2 nr2 hk9 hbe hown2 hgrow hat hlt2 hSA n5 hnb hownA hbsA hQA hi31 hz31 hs31 hb31 
              refine wpAnyH_take (i := 15) (v := .pointer (some ⟨z.Bnl, D, none⟩)) rfl (by kernel_rfl) (by kernel_rfl) (by kernel_rfl) (fun _ _ _ h => h) (Or.inl ⟨by rfl, ?_⟩) hS2 ?_
              · rintro w' ⟨k1, k2, k3, k4⟩; go_simp
              refine wpAnyH_ready (rs := [16]) (by kernel_rfl) (by simp) ?_
              refine AllReadyH.cons rfl (fun K hK => ?_) AllReadyH.nil
              go_simp
              have hS3 : (fun w' : World => w'.cell? ⟨z.Bz, 4, none⟩ = some (.slice (some ⟨z.Bnl, 0, none⟩) g.newN g.newN) ∧ w'.cell? ⟨Be, 0, none⟩ = some (.int .u8 (tg (p.O i) q : Nat)) ∧ w'.cell? ⟨Be, 1, none⟩ = some (.int .u64 (ky (p.O i) q : Nat)) ∧ w'.cell? ⟨Be, 2, none⟩ = some (.int .i64 (vl (p.O i) q : Nat))) (w2.setCell ⟨z.Bnl, D, none⟩ (.slice (some ⟨g9, 0, none⟩) (lD + 1) cap9)) := ⟨(World.cell?_of_block (a := ⟨z.Bz, _, none⟩) (Below.heap_setCell w2 _ _ _ hzn)).trans hS2.1, (World.cell?_of_block (a := ⟨Be, _, none⟩) (Below.heap_setCell w2 _ _ _ (Ne.symm hne5))).trans hS2.2.1, (World.cell?_of_block (a := ⟨Be, _, none⟩) (Below.heap_setCell w2 _ _ _ (Ne.symm hne5))).trans hS2.2.2.1, (World.cell?_of_block (a := ⟨Be, _, none⟩) (Below.heap_setCell w2 _ _ _ (Ne.symm hne5))).trans hS2.2.2.2⟩
              refine hK.out _ _ hS3 (fun _ => ?_)
              clear hK K hS2 hS3 nc2 nf2
              refine wpAnyH_done (by kernel_rfl) ?_ _
              refine NoPanic.normal ?_
              go_wp2_with fail
              refine ⟨⟨q + 1, by omega, by go_num, upd V' D (.slice (some ⟨g9, 0, none⟩) (lD + 1) cap9), ?_⟩, by simp [intOf]; omega⟩
              rw [HST.out]
              have h9 := HQ2.out
              unfold stepE
              simp only [HDE.out, HLL.out]
              exact h9
    · have eq : q = (p.O i).length := by omega
      have Hq : Hid (Zq z g w p V (stP g p i) wr V') := by
        show Zq z g w p V (stQ (i % g.newN) g.sp ⟨p.L, p.ovc, p.cl⟩ (p.O i) (p.O i).length) wr V'
        rw [HBB.out, ← eq]; exact hZq
      clear hZq HQ y3 yo z0 z1 z3 zo hsp hbs
      go_upto_if 37 with (fail)
      go_step
      go_step
      go_step
      go_step
      go_step
      go_step
      have q1 := Hq.out
      have hmr : Row wr z.Bv g.oldN 4 (fun j => .bool (p.mv j)) := HS.out.mr.k31 q1.k HS.out.mr.lt (by
        rintro (e | e)
        · exact HS.out.mr.ne HS.out.zr (by decide) e
        · exact HS.out.mr.ne HS.out.nr (by decide) e) (by decide)
      have hor : Row wr z.Bol g.oldN 32 (fun i => V' (g.newN + i)) := (HS.out.orr.k31 q1.k HS.out.orr.lt (by
        rintro (e | e)
        · exact HS.out.orr.ne HS.out.zr (by decide) e
        · exact HS.out.ne e) (by decide)).congr (fun k _ => (q1.ol k).symm)
      refine Code.wp_mono (bodyPost_imp ?_) (model_tail hi ho3 hnx HP.out.g1 q1.zr hmr hor)
      rintro e w' ⟨rfl, nx, hsw, hz, hm9, ho9, hst⟩
      have enx := Swept.eq _ _ rfl (by omega) hsw
      have hnb : ∀ b, b = z.Bnl → ¬ (b = z.Bz ∨ b = z.Bv ∨ b = z.Bol) := fun b hb => by
        subst hb
        rintro (e | e | e)
        · exact q1.nr.ne q1.zr (by decide) e
        · exact q1.nr.ne hmr (by decide) e
        · exact HS.out.ne e.symm
      have hlist : ∀ j k, j < g.newN + g.oldN → (V' j).ownBlock = some k → w'.heap[k]? = wr.heap[k]? := fun j k hj hk => by
        obtain ⟨h1, a9, h2⟩ := q1.ls.kind hj hk
        have hno : ∀ (b N : Nat) (t : TypeId) (F : Nat → Value), Row wr b N t F → t ≠ 31 → k ≠ b := fun b N t F hr ht e => by
          subst e
          have hr' : wr.heap[k]? = some (.cells (rowA N F) t (0, 0)) := hr
          rw [hr'] at h2
          injection h2 with h3
          injection h3 with _ h4 _
          exact ht h4
        refine hst.block k h1 ?_
        rintro (e | e | e)
        · exact hno _ _ _ _ q1.zr (by decide) e
        · exact hno _ _ _ _ hmr (by decide) e
        · exact hno _ _ _ _ hor (by decide) e
      refine ⟨rfl, upd V' (g.newN + i) (.slice none 0 0), ⟨?_, hm9, ?_, ?_, ?_, HS.out.ne, ?_⟩, ?_⟩
      · show Row w' z.Bz 10 28 (zF z g.oldN g.newN (sweepN (mvP p i) (g.oldN - p.nx) p.nx) (decide (sweepN (mvP p i) (g.oldN - p.nx) p.nx = g.oldN)) (p.mig + 1) (stP g p i).ovc (stP g p i).cl)
        have enx' : sweepN (mvP p i) (g.oldN - p.nx) p.nx = nx := enx.symm
        rw [enx']; exact hz
      · have hn9 : Row w' z.Bnl g.newN 32 V' := (hst.block _ q1.nr.lt (hnb _ rfl)).trans q1.nr
        exact hn9.congr (fun k hk => (upd_ne _ _ (by omega)).symm)
      · refine ho9.congr (fun k _ => ?_)
        unfold upd
        by_cases e : k = i
        · rw [if_pos e, if_pos (by omega)]
        · rw [if_neg e, if_neg (by omega)]
      · have h9 := (q1.ls.on hlist).clear (g.newN + i)
        rw [LL_setO] at h9
        exact h9
      · have h8 := HS.out.bs
        have h7 := q1.k.size
        have h6 := hst.size
        omega
      · have k1 : K31 z.base w.heap.size (fun b => b = z.Bz ∨ b = z.Bv ∨ b = z.Bol ∨ b = z.Bnl) w wr := ⟨q1.k.os, q1.k.tape, q1.k.output, q1.k.size, fun b hb hx ht => q1.k.block b hb (fun e => hx (by rcases e with e | e; exact .inl e; exact .inr (.inr (.inr e)))) ht⟩
        have k2 : K31 z.base wr.heap.size (fun b => b = z.Bz ∨ b = z.Bv ∨ b = z.Bol ∨ b = z.Bnl) wr w' := ⟨hst.os, hst.tape, hst.output, hst.size, fun b hb hx _ => hst.block b hb (fun e => hx (by rcases e with e | e | e; exact .inl e; exact .inr (.inl e); exact .inr (.inr (.inl e))))⟩
        exact k1.trans k2 q1.k.size
end Go.Proofs.Ybulkeaqa
