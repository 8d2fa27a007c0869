/- S6357B: bucket.insert on a chain. -/
import Derived.Test.YbulkeaqaBIns
namespace Go.Proofs.Ybulkeaqa
open Go.RowKit
set_option linter.unusedSimpArgs false

theorem bcell_snoc {es : List Ent} {e : Ent} {nx : Value} {t s k : Nat} (hts : es.length = 8 * t + s) (hs : s < 8) (_hk : k < 25) :
    bcell (es ++ [e]) nx t k = if k = s then .int .u8 e.t else if k = 8 + s then .int .u64 e.k else if k = 16 + s then .int .i64 e.v else bcell es nx t k := by
  unfold bcell
  by_cases h1 : k < 8
  · rw [if_pos h1, if_pos h1, tg_snoc]
    by_cases e1 : k = s
    · rw [if_pos e1, if_pos (by omega)]
    · rw [if_neg e1, if_neg (by omega), if_neg (by omega), if_neg (by omega)]
  · rw [if_neg h1, if_neg h1, if_neg (show ¬ k = s by omega)]
    by_cases h2 : k < 16
    · rw [if_pos h2, if_pos h2, ky_snoc]
      by_cases e1 : k = 8 + s
      · rw [if_pos e1, if_pos (by omega)]
      · rw [if_neg e1, if_neg (by omega), if_neg (by omega)]
    · rw [if_neg h2, if_neg h2, if_neg (show ¬ k = 8 + s by omega)]
      by_cases h3 : k < 24
      · rw [if_pos h3, if_pos h3, vl_snoc]
        by_cases e1 : k = 16 + s
        · rw [if_pos e1, if_pos (by omega)]
        · rw [if_neg e1, if_neg (by omega)]
      · rw [if_neg h3, if_neg h3, if_neg (by omega)]
theorem bcell_other {es : List Ent} {e : Ent} {nx : Value} {u k : Nat} (h : ∀ s, s < 8 → es.length ≠ 8 * u + s) (hk : k < 25) : bcell (es ++ [e]) nx u k = bcell es nx u k := by
  unfold bcell
  by_cases h1 : k < 8
  · rw [if_pos h1, if_pos h1, tg_snoc, if_neg (fun e => h k h1 e.symm)]
  · rw [if_neg h1, if_neg h1]
    by_cases h2 : k < 16
    · rw [if_pos h2, if_pos h2, ky_snoc, if_neg (fun e => h (k - 8) (by omega) e.symm)]
    · rw [if_neg h2, if_neg h2]
      by_cases h3 : k < 24
      · rw [if_pos h3, if_pos h3, vl_snoc, if_neg (fun e => h (k - 16) (by omega) e.symm)]
      · rw [if_neg h3, if_neg h3]
theorem upd3 (G : Nat → Value) (o s : Nat) (a b c : Value) (_hs : s < 8) {k : Nat} : upd (upd (upd G (o + s) a) (o + 8 + s) b) (o + 16 + s) c (o + k) = if k = s then a else if k = 8 + s then b else if k = 16 + s then c else G (o + k) := by
  simp only [upd]
  by_cases e1 : k = s
  · rw [if_neg (by omega), if_neg (by omega), if_pos (by omega), if_pos e1]
  · rw [if_neg e1]
    by_cases e2 : k = 8 + s
    · rw [if_neg (by omega), if_pos (by omega), if_pos e2]
    · rw [if_neg e2]
      by_cases e3 : k = 16 + s
      · rw [if_pos (by omega), if_pos e3]
      · rw [if_neg (by omega), if_neg (by omega), if_neg (by omega), if_neg e3]

/-- What insert leaves. -/
structure Put (w w' : World) (Bh N oh : Nat) (F : Nat → Value) (ov : Nat → Nat) (es : List Ent) (e : Ent) (F' : Nat → Value) (ov' : Nat → Nat) : Prop where
  row : Row w' Bh N 39 F'
  out : ∀ k, k < oh ∨ oh + 25 ≤ k → F' k = F k
  chain : Chain w' Bh oh F' ov' (es ++ [e])
  old : ∀ t, t < nbk es.length → ov' t = ov t
  new : ∀ t, nbk es.length ≤ t → t < nbk (es.length + 1) → ov' t = w.heap.size
  stay : Stay w.heap.size (fun b => b = Bh ∨ ∃ t, 1 ≤ t ∧ t < nbk es.length ∧ b = ov t) w w'

theorem put_room {w : World} {Bh N oh : Nat} {F : Nat → Value} {ov : Nat → Nat} {es : List Ent} {e : Ent} {t s q : Nat} (hR : Row w Bh N 39 F) (_hN : oh + 25 ≤ N) (hC : Chain w Bh oh F ov es) (hts : es.length = 8 * t + s) (hs : s < 8) (ht : t < nbk es.length) (hnb : nbk (es.length + 1) = nbk es.length) :
    ∃ F' ov', Put w ((((w.setCell ⟨blk Bh ov t, off oh t + s, none⟩ (.int .u8 e.t)).setCell ⟨blk Bh ov t, off oh t + 8 + s, none⟩ (.int .u64 e.k)).setCell ⟨blk Bh ov t, off oh t + 16 + s, none⟩ (.int .i64 e.v)).drewN q) Bh N oh F ov es e F' ov' := by
  have hlen : (es ++ [e]).length = es.length + 1 := by simp
  have hnx : ∀ u, nxt ov (es ++ [e]).length u = nxt ov es.length u := fun u => by unfold nxt; rw [hlen, hnb]
  have hoth : ∀ u, u ≠ t → ∀ s', s' < 8 → es.length ≠ 8 * u + s' := fun u hu s' hs' => by omega
  by_cases h0 : t = 0
  · subst h0
    refine ⟨upd (upd (upd F (oh + s) (.int .u8 e.t)) (oh + 8 + s) (.int .u64 e.k)) (oh + 16 + s) (.int .i64 e.v), ov, ?_⟩
    simp only [blk, off, if_pos]
    refine ⟨(((hR.set _).set _).set _).drewN q, fun k hk => ?_, ⟨fun k hk => ?_, fun u h1 h2 => ?_, fun u h1 h2 => hC.ne u h1 (by rw [hlen, hnb] at h2; exact h2), fun u v h1 h2 h3 h4 => hC.inj u v h1 (by rw [hlen, hnb] at h2; exact h2) h3 (by rw [hlen, hnb] at h4; exact h4)⟩, fun _ _ => rfl, fun u h1 h2 => by omega, (((((Stay.refl _ _ w).set _ (.inr (.inl rfl))).set _ (.inr (.inl rfl))).set _ (.inr (.inl rfl))).drewN q)⟩
    · rw [upd_ne _ _ (by omega), upd_ne _ _ (by omega), upd_ne _ _ (by omega)]
    · rw [upd3 F oh s _ _ _ hs, bcell_snoc hts hs hk, hnx, hC.head k hk]
    · rw [hlen, hnb] at h2
      have hne := hC.ne u h1 h2
      refine Row.congr (((((hC.ovs u h1 h2).other _ hne).other _ hne).other _ hne).drewN q) (fun k hk => ?_)
      rw [hnx, bcell_other (hoth u (by omega)) hk]
  · refine ⟨F, ov, ?_⟩
    simp only [blk, off, if_neg h0, Nat.zero_add]
    have hne := hC.ne t (by omega) ht
    refine ⟨(((hR.other _ (Ne.symm hne)).other _ (Ne.symm hne)).other _ (Ne.symm hne)).drewN q, fun _ _ => rfl, ⟨fun k hk => ?_, fun u h1 h2 => ?_, fun u h1 h2 => hC.ne u h1 (by rw [hlen, hnb] at h2; exact h2), fun u v h1 h2 h3 h4 => hC.inj u v h1 (by rw [hlen, hnb] at h2; exact h2) h3 (by rw [hlen, hnb] at h4; exact h4)⟩, fun _ _ => rfl, fun u h1 h2 => by omega, (((((Stay.refl _ _ w).set _ (.inr (.inr ⟨t, by omega, ht, rfl⟩))).set _ (.inr (.inr ⟨t, by omega, ht, rfl⟩))).set _ (.inr (.inr ⟨t, by omega, ht, rfl⟩))).drewN q)⟩
    · rw [hC.head k hk, hnx, bcell_other (hoth 0 (by omega)) hk]
    · rw [hlen, hnb] at h2
      by_cases eu : u = t
      · subst eu
        refine Row.congr ((((hC.ovs u h1 h2).set _).set _).set _ |>.drewN q) (fun k hk => ?_)
        have := upd3 (bcell es (nxt ov es.length u) u) 0 s (.int .u8 e.t) (.int .u64 e.k) (.int .i64 e.v) hs (k := k)
        simp only [Nat.zero_add] at this
        rw [this, bcell_snoc hts hs hk, hnx]
      · have hne2 : ov u ≠ ov t := fun e => eu (hC.inj u t h1 h2 (by omega) ht e)
        refine Row.congr (((((hC.ovs u h1 h2).other _ hne2).other _ hne2).other _ hne2).drewN q) (fun k hk => ?_)
        rw [hnx, bcell_other (hoth u eu) hk]

theorem z25_cell (k : Nat) (hk : k < 25) : z25.getD k undef = bcell [] (.pointer none) 0 k := by
  have : ∀ k, k < 25 → z25.getD k undef = bcell [] (.pointer none) 0 k := by
    intro k hk
    rcases (show k = 0 ∨ k = 1 ∨ k = 2 ∨ k = 3 ∨ k = 4 ∨ k = 5 ∨ k = 6 ∨ k = 7 ∨ k = 8 ∨ k = 9 ∨ k = 10 ∨ k = 11 ∨ k = 12 ∨ k = 13 ∨ k = 14 ∨ k = 15 ∨ k = 16 ∨ k = 17 ∨ k = 18 ∨ k = 19 ∨ k = 20 ∨ k = 21 ∨ k = 22 ∨ k = 23 ∨ k = 24 by omega) with rfl | rfl | rfl | rfl | rfl | rfl | rfl | rfl | rfl | rfl | rfl | rfl | rfl | rfl | rfl | rfl | rfl | rfl | rfl | rfl | rfl | rfl | rfl | rfl | rfl <;> rfl
  exact this k hk
theorem bcell_past {es : List Ent} {nx : Value} {t k : Nat} (h : es.length ≤ 8 * t) : bcell es nx t k = bcell [] nx 0 k := by
  unfold bcell
  have p : ∀ q, es.length ≤ q → tg es q = 0 ∧ ky es q = 0 ∧ vl es q = 0 := fun q hq => tg_past hq
  have p0 : ∀ q, tg [] q = 0 ∧ ky [] q = 0 ∧ vl [] q = 0 := fun q => tg_past (Nat.zero_le q)
  rw [(p _ (by omega)).1, (p (8 * t + (k - 8)) (by omega)).2.1, (p (8 * t + (k - 16)) (by omega)).2.2, (p0 _).1, (p0 _).2.1, (p0 _).2.2]

/-- The overflows, one more. -/
def ovN (ov : Nat → Nat) (m x t : Nat) : Nat := if t = m + 1 then x else ov t
theorem ovN_new (ov : Nat → Nat) (m x : Nat) : ovN ov m x (m + 1) = x := by simp [ovN]

theorem put_full {w : World} {Bh N oh : Nat} {F : Nat → Value} {ov : Nat → Nat} {es : List Ent} {e : Ent} {m q : Nat} (hR : Row w Bh N 39 F) (_hN : oh + 25 ≤ N) (hC : Chain w Bh oh F ov es) (hm : es.length = 8 * (m + 1)) :
    ∃ F' ov', Put w ((((((w.setCell ⟨blk Bh ov m, off oh m + 24, none⟩ (.pointer (some ⟨w.heap.size, 0, none⟩))).alloc (.cells z25 39)).setCell ⟨w.heap.size, 0, none⟩ (.int .u8 e.t)).setCell ⟨w.heap.size, 8, none⟩ (.int .u64 e.k)).setCell ⟨w.heap.size, 16, none⟩ (.int .i64 e.v)).drewN q) Bh N oh F ov es e F' ov' := by
  have hlen : (es ++ [e]).length = es.length + 1 := by simp
  have hn1 : nbk es.length = m + 1 := by unfold nbk; rw [if_neg (by omega)]; omega
  have hn2 : nbk (es.length + 1) = m + 2 := by unfold nbk; rw [if_neg (by omega)]; omega
  have hn3 : nbk (es ++ [e]).length = m + 2 := by rw [hlen, hn2]
  have hoth : ∀ u, u ≠ m + 1 → ∀ s', s' < 8 → es.length ≠ 8 * u + s' := fun u hu s' hs' => by omega
  have hlt0 := hR.lt
  have hltu : ∀ u, 1 ≤ u → u < m + 1 → ov u < w.heap.size := fun u h1 h2 => (hC.ovs u h1 (by omega)).lt
  -- the new bucket
  have hnewr : ∀ w1 : World, w1.heap.size = w.heap.size → Row (((((w1.alloc (.cells z25 39)).setCell ⟨w.heap.size, 0, none⟩ (.int .u8 e.t)).setCell ⟨w.heap.size, 8, none⟩ (.int .u64 e.k)).setCell ⟨w.heap.size, 16, none⟩ (.int .i64 e.v)).drewN q) w.heap.size 25 39 (bcell (es ++ [e]) (.pointer none) (m + 1)) := fun w1 h1 => by
    have hr := Row.new w1 z25 39 (fun k => z25.getD k undef) (fun k hk => by simp [Array.getD, hk])
    rw [h1] at hr
    refine Row.congr (((((hr.set _).set _).set _)).drewN q) (fun k hk => ?_)
    have := upd3 (fun k => z25.getD k undef) 0 0 (.int .u8 e.t) (.int .u64 e.k) (.int .i64 e.v) (by omega) (k := k)
    simp only [Nat.zero_add, Nat.add_zero] at this
    rw [this, bcell_snoc (t := m + 1) (s := 0) (by omega) (by omega) hk, z25_cell k hk, bcell_past (show es.length ≤ 8 * (m + 1) by omega)]
  have keep : ∀ (b : Nat) (w1 : World), b < w.heap.size → w1.heap.size = w.heap.size → ((((w1.alloc (.cells z25 39)).setCell ⟨w.heap.size, 0, none⟩ (.int .u8 e.t)).setCell ⟨w.heap.size, 8, none⟩ (.int .u64 e.k)).setCell ⟨w.heap.size, 16, none⟩ (.int .i64 e.v)).heap[b]? = w1.heap[b]? := fun b w1 hb h1 => by
    have hn : b ≠ w.heap.size := by omega
    rw [Below.heap_setCell _ _ _ _ hn, Below.heap_setCell _ _ _ _ hn, Below.heap_setCell _ _ _ _ hn]
    exact (MapKept.heap_alloc w1 _).2 b (by omega)
  have hsz : (w.setCell ⟨blk Bh ov m, off oh m + 24, none⟩ (.pointer (some ⟨w.heap.size, 0, none⟩))).heap.size = w.heap.size := by simp [World.setCell]
  have hst : ∀ S : Nat → Prop, S (blk Bh ov m) → Stay w.heap.size S w ((((((w.setCell ⟨blk Bh ov m, off oh m + 24, none⟩ (.pointer (some ⟨w.heap.size, 0, none⟩))).alloc (.cells z25 39)).setCell ⟨w.heap.size, 0, none⟩ (.int .u8 e.t)).setCell ⟨w.heap.size, 8, none⟩ (.int .u64 e.k)).setCell ⟨w.heap.size, 16, none⟩ (.int .i64 e.v)).drewN q) := fun S hS =>
    ((((((Stay.refl _ _ w).set _ (.inr hS)).alloc (by rw [hsz]; exact Nat.le_refl _) _).set _ (.inl (Nat.le_refl _))).set _ (.inl (Nat.le_refl _))).set _ (.inl (Nat.le_refl _))).drewN q
  have hov : ∀ u, u < m + 1 → ovN ov m w.heap.size u = ov u := fun u hu => by unfold ovN; rw [if_neg (by omega)]
  have hnxl : nxt (ovN ov m w.heap.size) (es ++ [e]).length m = .pointer (some ⟨w.heap.size, 0, none⟩) := by
    unfold nxt; rw [hn3, if_pos (by omega), ovN_new]
  have hnxn : nxt (ovN ov m w.heap.size) (es ++ [e]).length (m + 1) = .pointer none := by
    unfold nxt; rw [hn3, if_neg (by omega)]
  have hnxo : ∀ u, u < m → nxt (ovN ov m w.heap.size) (es ++ [e]).length u = nxt ov es.length u := fun u hu => by
    unfold nxt; rw [hn3, hn1, if_pos (by omega), if_pos (by omega), hov (u + 1) (by omega)]
  have hlast : ∀ (G : Nat → Value) (k : Nat), k < 25 → (∀ k, k < 25 → G k = bcell es (nxt ov es.length m) m k) → (if k = 24 then Value.pointer (some ⟨w.heap.size, 0, none⟩) else G k) = bcell (es ++ [e]) (.pointer (some ⟨w.heap.size, 0, none⟩)) m k := fun G k hk hG => by
    rw [bcell_other (hoth m (by omega)) hk]
    by_cases e24 : k = 24
    · rw [if_pos e24, e24, bcell_o]
    · rw [if_neg e24, hG k hk]
      unfold bcell
      by_cases h1 : k < 8
      · rw [if_pos h1, if_pos h1]
      · rw [if_neg h1, if_neg h1]
        by_cases h2 : k < 16
        · rw [if_pos h2, if_pos h2]
        · rw [if_neg h2, if_neg h2, if_pos (by omega), if_pos (by omega)]
  by_cases h0 : m = 0
  · subst h0
    refine ⟨upd F (oh + 24) (.pointer (some ⟨w.heap.size, 0, none⟩)), ovN ov 0 w.heap.size, ?_⟩
    refine ⟨?_, fun k hk => upd_ne _ _ (by omega), ⟨fun k hk => ?_, fun u h1 h2 => ?_, fun u h1 h2 => ?_, fun u v h1 h2 h3 h4 _ => by omega⟩, fun u hu => hov u (by omega), fun u h1 h2 => by
      have e1 : u = 0 + 1 := by omega
      rw [e1, ovN_new], hst _ (.inl (by simp [blk]))⟩
    · refine (keep Bh _ hlt0 hsz).trans ?_
      simp only [blk, off, if_pos]
      exact hR.set _
    · rw [hnxl, ← hlast (fun k => F (oh + k)) k hk (fun k hk => hC.head k hk)]
      simp only [upd]
      by_cases e24 : k = 24
      · rw [if_pos (by omega), if_pos e24]
      · rw [if_neg (by omega), if_neg e24]
    · obtain rfl : u = 0 + 1 := by omega
      rw [hnxn, ovN_new]
      exact hnewr _ hsz
    · obtain rfl : u = 0 + 1 := by omega
      rw [ovN_new]
      omega
  · have hbm : blk Bh ov m = ov m := by simp [blk, h0]
    have hom : off oh m = 0 := by simp [off, h0]
    rw [hbm, hom] at hst hsz ⊢
    have hnem := hC.ne m (by omega) (by omega)
    refine ⟨F, ovN ov m w.heap.size, ?_⟩
    refine ⟨?_, fun _ _ => rfl, ⟨fun k hk => ?_, fun u h1 h2 => ?_, fun u h1 h2 => ?_, fun u v h1 h2 h3 h4 huv => ?_⟩, fun u hu => hov u (by omega), fun u h1 h2 => by
      have e1 : u = m + 1 := by omega
      rw [e1, ovN_new], hst _ (.inr ⟨m, by omega, by omega, rfl⟩)⟩
    · exact (keep Bh _ hlt0 hsz).trans (hR.other _ (Ne.symm hnem))
    · rw [hC.head k hk, hnxo 0 (by omega), bcell_other (hoth 0 (by omega)) hk]
    · rw [hn3] at h2
      by_cases eu : u = m + 1
      · subst eu
        rw [hnxn, ovN_new]
        exact hnewr _ hsz
      · have hu : u < m + 1 := by omega
        rw [hov u hu]
        refine Row.congr ((keep (ov u) _ (hltu u h1 hu) hsz).trans ?_ : Row _ (ov u) 25 39 (if u = m then upd (bcell es (nxt ov es.length m) m) 24 (.pointer (some ⟨w.heap.size, 0, none⟩)) else bcell es (nxt ov es.length u) u)) (fun k hk => ?_)
        · by_cases eum : u = m
          · subst eum
            rw [if_pos rfl, Nat.zero_add]
            exact (hC.ovs u h1 (by omega)).set _
          · rw [if_neg eum]
            exact (hC.ovs u h1 (by omega)).other _ (fun e => eum (hC.inj u m h1 (by omega) (by omega) (by omega) e))
        · by_cases eum : u = m
          · subst eum
            rw [if_pos rfl, hnxl, ← hlast (bcell es (nxt ov es.length u) u) k hk (fun k hk => rfl)]
            rfl
          · rw [if_neg eum, hnxo u (by omega), bcell_other (hoth u eu) hk]
    · rw [hn3] at h2
      by_cases eu : u = m + 1
      · subst eu; rw [ovN_new]; omega
      · rw [hov u (by omega)]; exact hC.ne u h1 (by omega)
    · rw [hn3] at h2 h4
      by_cases eu : u = m + 1
      · by_cases ev : v = m + 1
        · omega
        · rw [hov v (by omega)] at huv
          rw [eu, ovN_new] at huv
          have := hltu v h3 (by omega); omega
      · rw [hov u (by omega)] at huv
        by_cases ev : v = m + 1
        · rw [ev, ovN_new] at huv
          have := hltu u h1 (by omega); omega
        · rw [hov v (by omega)] at huv
          exact hC.inj u v h1 (by omega) h3 (by omega) huv

theorem insert_any (Bh N oh : Nat) (F : Nat → Value) (ov : Nat → Nat) (es : List Ent) (e : Ent) (w : World) (hR : Row w Bh N 39 F) (hN : oh + 25 ≤ N) (hC : Chain w Bh oh F ov es) (hes : ∀ e ∈ es, e.Ok) (hl : es.length ≤ 1000000) :
    Calls Yba.prog 27 #[.pointer (some ⟨Bh, oh, none⟩), .int .u8 e.t, .int .u64 e.k, .int .i64 e.v] w fun r w' => r = .returned (.bool (decide (0 < es.length ∧ es.length % 8 = 0))) ∧ ∃ F' ov', Put w w' Bh N oh F ov es e F' ov' := by
  by_cases h : 0 < es.length ∧ es.length % 8 = 0
  · obtain ⟨m, hm⟩ : ∃ m, es.length = 8 * (m + 1) := ⟨es.length / 8 - 1, by omega⟩
    refine (insert_full Bh N oh F ov es e w hR hN hC hes m hm).mono ?_
    rintro r w' ⟨rfl, q, rfl⟩
    exact ⟨by rw [decide_eq_true h], put_full hR hN hC hm⟩
  · have hnb : es.length / 8 < nbk es.length := by unfold nbk; split <;> omega
    have hn2 : nbk (es.length + 1) = nbk es.length := by unfold nbk; rw [if_neg (by omega)]; split <;> omega
    refine (insert_room Bh N oh F ov es e w hR hN hC hes hl (es.length / 8) (es.length % 8) (by omega) (by omega) hnb).mono ?_
    rintro r w' ⟨rfl, q, rfl⟩
    exact ⟨by rw [decide_eq_false h], put_room hR hN hC (by omega) (by omega) hnb hn2⟩
end Go.Proofs.Ybulkeaqa
