/- S6357B: the plain state, and migrate. -/
import Derived.Test.YbulkeaqaBMove
namespace Go.Proofs.Ybulkeaqa
open Go.RowKit Go.Shelf
set_option linter.unusedSimpArgs false

structure Geo where
  Bm : Nat
  Bc : Nat
  Bn : Nat
  Bo : Nat
  newN : Nat
  oldN : Nat
  len : Nat
  sp : Nat
  e1 : Nat
  e0 : Nat
structure Geo.Ok (g : Geo) : Prop where
  n1 : g.newN = 2 ^ g.e1
  n2 : g.e1 ≤ 5
  n3 : g.newN ≤ 32
  n4 : 0 < g.newN
  o1 : g.oldN = 2 ^ g.e0
  o2 : g.e0 ≤ 4
  o3 : g.oldN ≤ 16
  o4 : 0 < g.oldN
  hsp : bits .andNot .u64 ((g.newN : Int) - 1) ((g.oldN : Int) - 1) = g.sp
  hsp2 : bits .andNot .i64 ((g.newN : Int) - 1) ((g.oldN : Int) - 1) = g.sp
  spb : g.sp < 1024
  dest : ∀ i k, i < g.oldN → destOf (i % g.newN) g.sp k < g.newN
  d1 : g.Bm ≠ g.Bc
  d2 : g.Bm ≠ g.Bo
  d3 : g.Bc ≠ g.Bo

structure Pl where
  L : Nat → List Ent
  O : Nat → List Ent
  mv : Nat → Bool
  nx : Nat
  mig : Nat
  ovc : Nat
  cl : Nat

def sweepN (mv : Nat → Bool) : Nat → Nat → Nat
  | 0, n => n
  | f + 1, n => if mv n then sweepN mv f (n + 1) else n
theorem Swept.eq {mv : Nat → Bool} {oldN nx : Nat} : ∀ (f next : Nat), oldN - next = f → next ≤ oldN → Swept mv oldN next nx → nx = sweepN mv f next
  | 0, next, hf, hle, h => by
    have h1 := h.le
    have h2 := h.le2
    rw [sweepN]; omega
  | f + 1, next, hf, hle, h => by
    rw [sweepN]
    by_cases e : next = nx
    · subst e; rw [h.stop (by omega)]; rfl
    · have h1 := h.le
      rw [h.all next (Nat.le_refl _) (by omega), if_pos rfl]
      exact Swept.eq f (next + 1) (by omega) (by have := h.le2; omega) ⟨by omega, h.le2, fun j h1 h2 => h.all j (by omega) h2, h.stop⟩
theorem Swept.congr {mv mv' : Nat → Bool} {oldN next nx : Nat} (h : Swept mv oldN next nx) (e : ∀ j, j < oldN → mv j = mv' j) : Swept mv' oldN next nx :=
  ⟨h.le, h.le2, fun j h1 h2 => by rw [← e j (by have := h.le2; omega)]; exact h.all j h1 h2, fun h1 => by rw [← e nx h1]; exact h.stop h1⟩
theorem sweepN_swept {mv : Nat → Bool} {oldN : Nat} : ∀ (f next : Nat), oldN - next = f → next ≤ oldN → Swept mv oldN next (sweepN mv f next)
  | 0, next, hf, hle => ⟨Nat.le_refl _, hle, fun j h1 h2 => by rw [sweepN] at h2; omega, fun h => by rw [sweepN] at h; omega⟩
  | f + 1, next, hf, hle => by
    rw [sweepN]
    cases hm : mv next with
    | false => exact ⟨Nat.le_refl _, hle, fun j h1 h2 => by simp at h2; omega, fun _ => hm⟩
    | true =>
      have ih := sweepN_swept (mv := mv) (oldN := oldN) f (next + 1) (by omega) (by omega)
      rw [if_pos rfl]
      refine ⟨by have := ih.le; omega, ih.le2, fun j h1 h2 => ?_, ih.stop⟩
      by_cases e : j = next
      · subst e; exact hm
      · exact ih.all j (by omega) h2

def stP (g : Geo) (p : Pl) (i : Nat) : St := stQ (i % g.newN) g.sp ⟨p.L, p.ovc, p.cl⟩ (p.O i) (p.O i).length
def mvP (p : Pl) (i : Nat) : Nat → Bool := fun j => decide (j = i) || p.mv j
def moveP (g : Geo) (p : Pl) (i : Nat) : Pl :=
  { L := (stP g p i).L, O := setL p.O i [], mv := mvP p i, nx := sweepN (mvP p i) (g.oldN - p.nx) p.nx, mig := p.mig + 1, ovc := (stP g p i).ovc, cl := (stP g p i).cl }
def mig1 (g : Geo) (p : Pl) (h : Nat) : Pl := if p.mv (h % g.oldN) = true then p else moveP g p (h % g.oldN)
def migP (g : Geo) (p : Pl) (h : Nat) : Pl := if (mig1 g p h).nx = g.oldN then mig1 g p h else moveP g (mig1 g p h) (mig1 g p h).nx

/-- What holds of the plain state alone. -/
structure Pl.Ok (g : Geo) (p : Pl) (m : Nat) : Prop where
  l1 : ∀ j, (p.L j).length ≤ m
  o1 : ∀ i, (p.O i).length ≤ 65536
  v1 : p.ovc ≤ m
  c1 : p.cl ≤ m
  g1 : p.mig ≤ 500
  nxl : p.nx ≤ g.oldN
  nxs : p.nx < g.oldN → p.mv p.nx = false
  lok : ∀ j, ∀ e ∈ p.L j, e.Ok
  ook : ∀ i, ∀ e ∈ p.O i, e.Ok

theorem stQ_ok (base sp : Nat) (s0 : St) (es : List Ent) (h0 : ∀ j, ∀ e ∈ s0.L j, e.Ok) (h1 : ∀ e ∈ es, e.Ok) : ∀ q, q ≤ es.length → ∀ j, ∀ e ∈ (stQ base sp s0 es q).L j, e.Ok
  | 0, _ => by rw [stQ_zero]; exact h0
  | q + 1, h => by
    have ih := stQ_ok base sp s0 es h0 h1 q (by omega)
    rw [stQ_succ base sp s0 es q (by omega)]
    intro j e he
    simp only [stepE, setL] at he
    split at he
    · rcases List.mem_append.1 he with he | he
      · exact ih _ e he
      · have : e = es[q] := by simpa using he
        rw [this]; exact h1 _ (List.getElem_mem _)
    · exact ih j e he
theorem Pl.Ok.move {g : Geo} {p : Pl} {m : Nat} (h : p.Ok g m) (hm : p.mig ≤ 400) (i : Nat) : (moveP g p i).Ok g (m + 65536) := by
  have hb := stQ_bound (i % g.newN) g.sp ⟨p.L, p.ovc, p.cl⟩ (p.O i) _ (Nat.le_refl _)
  have ho := h.o1 i
  have hs := sweepN_swept (mv := mvP p i) (oldN := g.oldN) _ p.nx rfl h.nxl
  refine ⟨fun j => ?_, fun j => ?_, ?_, ?_, ?_, hs.le2, hs.stop, fun j e he => ?_, fun j e he => ?_⟩
  · have h1 : ((stP g p i).L j).length ≤ (p.L j).length + (p.O i).length := hb.2.2 j
    have h2 := h.l1 j
    show ((stP g p i).L j).length ≤ _
    omega
  · show (setL p.O i [] j).length ≤ _
    unfold setL; split
    · simp
    · exact h.o1 j
  · have h1 : (stP g p i).ovc ≤ p.ovc + (p.O i).length := hb.1
    have h2 := h.v1
    show (stP g p i).ovc ≤ _
    omega
  · have h1 : (stP g p i).cl ≤ p.cl + (p.O i).length := hb.2.1
    have h2 := h.c1
    show (stP g p i).cl ≤ _
    omega
  · show p.mig + 1 ≤ 500; omega
  · exact stQ_ok _ _ _ _ h.lok (h.ook i) _ (Nat.le_refl _) j e he
  · change e ∈ setL p.O i [] j at he
    unfold setL at he; split at he
    · simp at he
    · exact h.ook j e he

structure MS (g : Geo) (w : World) (p : Pl) (F : Nat → Value) (ov : Nat → Nat → Nat) (Fo : Nat → Value) (ovo : Nat → Nat → Nat) : Prop where
  map : Row w g.Bm 18 53 (mapN g.Bc g.Bn g.Bo g.newN g.oldN p.nx g.len p.ovc p.mig)
  fam : Fam w g.Bn g.newN F ov p.L
  old : Row w g.Bo (g.oldN * 25) 39 Fo
  och : ∀ i, i < g.oldN → p.mv i = false → Chain w g.Bo (i * 25) Fo (ovo i) (p.O i)
  omv : ∀ i, i < g.oldN → p.mv i = true → ∀ k, k < 25 → Fo (i * 25 + k) = mvc k
  cc : w.cell? ⟨g.Bc, 0, none⟩ = some (.int .i64 (p.cl : Nat))
  cf : w.frozen? ⟨g.Bc, 0, none⟩ = false
  mM : ¬ Mine g.Bn g.newN ov p.L g.Bm
  mC : ¬ Mine g.Bn g.newN ov p.L g.Bc
  mO : ¬ Mine g.Bn g.newN ov p.L g.Bo
  mV : ∀ i t, i < g.oldN → p.mv i = false → 1 ≤ t → t < nbk (p.O i).length → ¬ Mine g.Bn g.newN ov p.L (ovo i t) ∧ ovo i t ≠ g.Bm ∧ ovo i t ≠ g.Bc

theorem tg_ne_one {es : List Ent} (h : ∀ e ∈ es, e.Ok) : ¬ tg es 0 = 1 := by
  by_cases hl : 0 < es.length
  · have := (tg_in h hl).1; omega
  · have := (tg_past (es := es) (q := 0) (by omega)).1; omega

def Touch (g : Geo) (ov : Nat → Nat → Nat) (L : Nat → List Ent) (b : Nat) : Prop := Mine g.Bn g.newN ov L b ∨ b = g.Bm ∨ b = g.Bc ∨ b = g.Bo

theorem move_ms {g : Geo} {w : World} {p : Pl} {m i : Nat} {F : Nat → Value} {ov : Nat → Nat → Nat} {Fo : Nat → Value} {ovo : Nat → Nat → Nat} (hg : g.Ok) (hp : p.Ok g m) (hm : m ≤ 400000) (hs : MS g w p F ov Fo ovo) (hi : i < g.oldN) (hmv : p.mv i = false) (hnx : p.nx < g.oldN) :
    Calls Yba.prog 17 #[.pointer (some ⟨g.Bm, 0, none⟩), .int .i64 i] w fun e w' => e = .returned (.tuple #[]) ∧ ∃ F' ov', MS g w' (moveP g p i) F' ov' (mvF Fo i) ovo ∧ Stay w.heap.size (Touch g ov p.L) w w' ∧ (∀ b, Mine g.Bn g.newN ov' (moveP g p i).L b → Mine g.Bn g.newN ov p.L b ∨ w.heap.size ≤ b) := by
  have hR : Row w g.Bm 18 53 (mapF g.Bc g.Bn g.Bo g.newN g.oldN p.nx g.len p.ovc p.mig) := by
    have := hs.map
    unfold mapN at this
    rwa [if_neg (by omega)] at this
  have htg : ∀ j, j < g.oldN → Fo (j * 25) = .int .u8 ((if p.mv j = true then 1 else tg (p.O j) 0 : Nat)) := fun j hj => by
    by_cases e : p.mv j = true
    · have := hs.omv j hj e 0 (by omega)
      rw [Nat.add_zero] at this
      rw [this, if_pos e]; rfl
    · have hc := (hs.och j hj (by simpa using e)).head 0 (by omega)
      rw [Nat.add_zero] at hc
      rw [hc, if_neg e, bcell_t _ _ _ (by omega)]
  have hmve : ∀ j, j < g.oldN → (decide (j = i) || ((if p.mv j = true then 1 else tg (p.O j) 0 : Nat) == 1)) = mvP p i j := fun j hj => by
    unfold mvP
    congr 1
    cases h9 : p.mv j with
    | true => rfl
    | false =>
      have := tg_ne_one (hp.ook j)
      simp [this]
  refine (move_any g.Bm g.Bc g.Bn g.Bo g.newN g.oldN p.nx g.len p.ovc p.mig i g.e1 g.sp w hR hi (by have := hg.o3; omega) (by have := hg.n3; omega) hg.n4 hg.n1 (by have := hg.n2; omega) hg.hsp ov ⟨p.L, p.ovc, p.cl⟩ F Fo (ovo i) (p.O i) rfl hs.fam hs.old (hs.och i hi hmv) (hp.ook i) (by have := hp.o1 i; omega) (by have := hp.v1; show p.ovc ≤ _; omega) (by have := hp.c1; show p.cl ≤ _; omega) hg.spb (fun j _ => by have := hp.l1 j; have := hp.o1 i; show (p.L j).length + _ ≤ _; omega) hs.cc hs.cf (fun e _ => hg.dest i e.k hi) hs.mM hs.mC hs.mO (fun t h1 h2 => hs.mV i t hi hmv h1 h2) hg.d1 hg.d2 hg.d3 _ htg (by omega) (by have := hp.g1; omega)).mono ?_
  rintro e w' ⟨rfl, nx, F', ov', hsw, hM, hO, hF, hfr, hc, hcf, hS⟩
  have hsw2 := hsw.congr hmve
  have enx := Swept.eq _ _ rfl (by omega) hsw2
  subst enx
  have hnew : ∀ b, Mine g.Bn g.newN ov' (stP g p i).L b → Mine g.Bn g.newN ov p.L b ∨ w.heap.size ≤ b := fun b hb => by
    rcases hb with rfl | ⟨j, t, hj, hl, rfl⟩
    · exact .inl (.inl rfl)
    · rcases hfr j t hj hl with ⟨h1, h2⟩ | h1
      · exact .inl (.inr ⟨j, t, hj, h1, h2⟩)
      · exact .inr h1
  have hno : ∀ b, b < w.heap.size → ¬ Mine g.Bn g.newN ov p.L b → ¬ Mine g.Bn g.newN ov' (stP g p i).L b := fun b hb h1 h2 => by
    rcases hnew b h2 with h | h
    · exact h1 h
    · omega
  have hBc := World.block_lt_of_cell? w _ hs.cc
  refine ⟨rfl, F', ov', ⟨hM, hF, hO, fun j hj hmj => ?_, fun j hj hmj k hk => ?_, hc, hcf, hno _ hs.map.lt hs.mM, hno _ hBc hs.mC, hno _ hs.old.lt hs.mO, fun j t hj hmj h1 h2 => ?_⟩, hS, hnew⟩
  · have hne : j ≠ i := fun e => by
      have h9 : mvP p i j = false := hmj
      unfold mvP at h9; rw [e] at h9; simp at h9
    have hmj2 : p.mv j = false := by
      have h9 : mvP p i j = false := hmj
      unfold mvP at h9; simp at h9; exact h9.2
    have hc := hs.och j hj hmj2
    show Chain w' g.Bo (j * 25) (mvF Fo i) (ovo j) (setL p.O i [] j)
    rw [setL_ne _ _ hne]
    refine ⟨fun k hk => ?_, fun t h1 h2 => (hS.block _ (hc.ovs t h1 h2).lt ?_).trans (hc.ovs t h1 h2), hc.ne, hc.inj⟩
    · unfold mvF; rw [if_neg (by omega)]; exact hc.head k hk
    · have hv := hs.mV j t hj hmj2 h1 h2
      rintro (e | e | e | e)
      · exact hv.1 e
      · exact hv.2.1 e
      · exact hv.2.2 e
      · exact hc.ne t h1 h2 e
  · by_cases e : j = i
    · subst e; unfold mvF; rw [if_pos (by omega), Nat.add_sub_cancel_left]
    · have h9 : mvP p i j = true := hmj
      unfold mvP at h9; simp [e] at h9
      unfold mvF; rw [if_neg (by omega)]
      exact hs.omv j hj h9 k hk
  · have hne : j ≠ i := fun e => by
      have h9 : mvP p i j = false := hmj
      unfold mvP at h9; rw [e] at h9; simp at h9
    have hmj2 : p.mv j = false := by
      have h9 : mvP p i j = false := hmj
      unfold mvP at h9; simp at h9; exact h9.2
    change t < nbk (setL p.O i [] j).length at h2
    rw [setL_ne _ _ hne] at h2
    have hv := hs.mV j t hj hmj2 h1 h2
    exact ⟨hno _ ((hs.och j hj hmj2).ovs t h1 h2).lt hv.1, hv.2⟩

theorem MS.drewN {g : Geo} {w : World} {p : Pl} {F : Nat → Value} {ov : Nat → Nat → Nat} {Fo : Nat → Value} {ovo : Nat → Nat → Nat} (h : MS g w p F ov Fo ovo) (q : Nat) : MS g (w.drewN q) p F ov Fo ovo :=
  ⟨h.map.drewN q, h.fam.drewN q, h.old.drewN q, fun i hi hm => ⟨(h.och i hi hm).head, fun t h1 h2 => ((h.och i hi hm).ovs t h1 h2).drewN q, (h.och i hi hm).ne, (h.och i hi hm).inj⟩, h.omv, h.cc, h.cf, h.mM, h.mC, h.mO, h.mV⟩
theorem mapN_at {Bc Bn Bo newN oldN next len ovc mig : Nat} : ∃ o, mapN Bc Bn Bo newN oldN next len ovc mig 6 = .int .i64 (o : Nat) ∧ (next = oldN → o = 0) ∧ (next ≠ oldN → o = oldN) := by
  by_cases h : next = oldN
  · exact ⟨0, by unfold mapN; rw [if_pos h]; rfl, fun _ => rfl, fun h2 => absurd h h2⟩
  · exact ⟨oldN, by unfold mapN; rw [if_neg h]; rfl, fun h2 => absurd h2 h, fun _ => rfl⟩
end Go.Proofs.Ybulkeaqa
