/- S6350A: what the law reads behind settle. -/
import Derived.Test.YbulkeamgCalls
namespace Go.Proofs.Ybulkeamg
open Go.RowKit
set_option linter.unusedSimpArgs false

/-- A list of tables taken, as it lies in w. -/
structure Tk (w : World) (aT : Option Addr) (Bt p : Nat) (l : List Nat) : Prop where
  at_ : 0 < l.length → aT = some ⟨Bt, 0, none⟩
  fst : ∀ j (h : j < l.length), w.cell? ⟨Bt, j * 2, none⟩ = some (.int .i32 (l[j] : Nat))
  snd : ∀ j, j < l.length → w.cell? ⟨Bt, j * 2 + 1, none⟩ = some (.int .i32 p)

structure Fin (n p : Nat) (T : List Nat) (w : World) (Bb : Nat) (B Bw cw : Nat → Nat) (aT : Option Addr) (cT Bt lo W Bx c b len : Nat) (G : Nat → Nat) (Bs cs : Nat) : Prop where
  f0 : w.cell? ⟨Bb, 0, none⟩ = some (.int .i64 n)
  f3 : w.cell? ⟨Bb, 3, none⟩ = some (.int .i64 0)
  f6 : w.cell? ⟨Bb, 6, none⟩ = some (.slice (some ⟨B 2, 0, none⟩) n n)
  f7 : w.cell? ⟨Bb, 7, none⟩ = some (.slice (some ⟨B 3, 0, none⟩) n n)
  f8 : w.cell? ⟨Bb, 8, none⟩ = some (.int .i64 0)
  f12 : w.cell? ⟨Bb, 12, none⟩ = some (.slice (some ⟨Bs, 0, none⟩) (p / 64 + 1) cs)
  f20 : w.cell? ⟨Bb, 20, none⟩ = some (.slice aT T.length cT)
  f21 : w.cell? ⟨Bb, 21, none⟩ = some (.slice none 0 0)
  f22 : w.cell? ⟨Bb, 22, none⟩ = some (.slice (some ⟨B 7, 0, none⟩) n n)
  r0 : ∀ v, v < n → w.cell? ⟨B 2, v * 4, none⟩ = some (.int .i64 0)
  r1 : ∀ v, v < n → w.cell? ⟨B 2, v * 4 + 1, none⟩ = some (.int .i64 (v / 64 : Nat))
  r2 : ∀ v, v < n → w.cell? ⟨B 2, v * 4 + 2, none⟩ = some (.int .i64 1)
  r3 : ∀ v, v < n → w.cell? ⟨B 2, v * 4 + 3, none⟩ = some (.slice (some ⟨Bw v, 0, none⟩) 1 (cw v))
  rw_ : ∀ v, v < n → w.cell? ⟨Bw v, 0, none⟩ = some (.int .u64 (2 ^ (v % 64) : Nat))
  n0 : w.cell? ⟨B 3, p * 4, none⟩ = some (.int .i64 b)
  n1 : w.cell? ⟨B 3, p * 4 + 1, none⟩ = some (.int .i64 lo)
  n2 : w.cell? ⟨B 3, p * 4 + 2, none⟩ = some (.int .i64 W)
  n3 : w.cell? ⟨B 3, p * 4 + 3, none⟩ = some (.slice (some ⟨Bx, 0, none⟩) len c)
  words : ∀ d, d < len → w.cell? ⟨Bx, d, none⟩ = some (.int .u64 (G d))
  m0 : ∀ v, v < n → v ≠ p → w.cell? ⟨B 3, v * 4, none⟩ = some (.int .i64 0)
  m1 : ∀ v, v < n → v ≠ p → w.cell? ⟨B 3, v * 4 + 1, none⟩ = some (.int .i64 0)
  m2 : ∀ v, v < n → v ≠ p → w.cell? ⟨B 3, v * 4 + 2, none⟩ = some (.int .i64 0)
  m3 : ∀ v, v < n → v ≠ p → w.cell? ⟨B 3, v * 4 + 3, none⟩ = some (.slice none 0 0)
  t0 : ∀ v, v < n → w.cell? ⟨B 7, v * 2, none⟩ = some (.int .i64 0)
  t1 : ∀ v, v < n → w.cell? ⟨B 7, v * 2 + 1, none⟩ = some (.int .i64 (if v = p then T.length else 0 : Nat))
  tk : Tk w aT Bt p T
  set_ : ∀ i, i < p / 64 + 1 → w.cell? ⟨Bs, i, none⟩ = some (.int .u64 (if i = p / 64 then 2 ^ (p % 64) else 0 : Nat))

theorem Stay.some {w w' : World} (h : Stay w.heap.size (fun _ => False) w w') {b k : Nat} {v : Value} (hc : w.cell? ⟨b, k, none⟩ = .some v) : w'.cell? ⟨b, k, none⟩ = .some v := by
  rw [h.cell b k (World.block_lt_of_cell? w _ hc) id]; exact hc
theorem Tk.keep {w w' : World} {aT : Option Addr} {Bt p : Nat} {l : List Nat} (h : Tk w aT Bt p l) (s : Stay w.heap.size (fun _ => False) w w') : Tk w' aT Bt p l :=
  ⟨h.at_, fun j hj => s.some (h.fst j hj), fun j hj => s.some (h.snd j hj)⟩
theorem Fin.keep {n p : Nat} {T : List Nat} {w w' : World} {Bb : Nat} {B Bw cw : Nat → Nat} {aT : Option Addr} {cT Bt lo W Bx c b len : Nat} {G : Nat → Nat} {Bs cs : Nat} (h : Fin n p T w Bb B Bw cw aT cT Bt lo W Bx c b len G Bs cs) (s : Stay w.heap.size (fun _ => False) w w') : Fin n p T w' Bb B Bw cw aT cT Bt lo W Bx c b len G Bs cs :=
  ⟨s.some h.f0, s.some h.f3, s.some h.f6, s.some h.f7, s.some h.f8, s.some h.f12, s.some h.f20, s.some h.f21, s.some h.f22, fun v hv => s.some (h.r0 v hv), fun v hv => s.some (h.r1 v hv), fun v hv => s.some (h.r2 v hv), fun v hv => s.some (h.r3 v hv), fun v hv => s.some (h.rw_ v hv),
    s.some h.n0, s.some h.n1, s.some h.n2, s.some h.n3, fun d hd => s.some (h.words d hd), fun v hv hp => s.some (h.m0 v hv hp), fun v hv hp => s.some (h.m1 v hv hp), fun v hv hp => s.some (h.m2 v hv hp), fun v hv hp => s.some (h.m3 v hv hp), fun v hv => s.some (h.t0 v hv), fun v hv => s.some (h.t1 v hv), h.tk.keep s, fun i hi => s.some (h.set_ i hi)⟩

theorem Tk.of {w : World} {base p : Nat} {v : Value} {l : List Nat} (h : w.ownsRow base 33 2 v l.length (pairs p l)) : ∃ aT cT Bt, v = .slice aT l.length cT ∧ Tk w aT Bt p l ∧ (0 < l.length → base ≤ Bt) := by
  obtain ⟨h1, ⟨rfl, h2⟩ | ⟨g, cap, cur, rfl, h3, _, _⟩⟩ := id h
  · exact ⟨none, 0, 0, by rw [h2], ⟨fun e => by omega, fun j hj => by omega, fun j hj => by omega⟩, fun e => by omega⟩
  · refine ⟨_, cap, g, rfl, ⟨fun _ => rfl, fun j hj => ?_, fun j hj => ?_⟩, fun _ => h3⟩
    · rw [h.cellAt (j * 2) (by omega), (pairs_at p l j hj).1]
    · rw [h.cellAt (j * 2 + 1) (by omega), (pairs_at p l j hj).2]

theorem Fin.of {n : Nat} {m : Int} {p L : Nat} {FQ : Nat → Nat} {w0 ws w : World} {Bb : Nat} {B Bw cw : Nat → Nat} {base : Nat} {sA : Option Addr} {Bf : Nat} {vT : Value} {lo W Bx c b len : Nat} {G : Nat → Nat} {Bs cs : Nat} (hA : Ask n m p L FQ w0 ws Bb B Bw cw base sA Bf) (h : Settled n m p L FQ ws w Bb B vT lo W Bx c b len G Bs cs) :
    ∃ aT cT Bt, Fin n p (tkn p FQ L) w Bb B Bw cw aT cT Bt lo W Bx c b len G Bs cs := by
  obtain ⟨aT, cT, Bt, rfl, hT, _⟩ := Tk.of h.own
  refine ⟨aT, cT, Bt, ?_⟩
  have hs := hA.book.size
  have lb := hA.book.lowb
  have l7 := hA.book.low 7 (by omega)
  have l2 := hA.book.low 2 (by omega)
  have l3 := hA.book.low 3 (by omega)
  have n27 := hA.book.ne 2 7 (by omega) (by omega) (by omega)
  have n23 := hA.book.ne 2 3 (by omega) (by omega) (by omega)
  have hp := hA.p1
  have hc := h.scs
  have fb : ∀ k, k < 27 → k ≠ 12 → k ≠ 20 → w.cell? ⟨Bb, k, none⟩ = some (bookF n m B k) := fun k hk h1 h2 => by
    rw [h.book.cell hk, upd_ne _ _ h1, upd_ne _ _ h2]
  obtain ⟨H2, hR2, _, hd2⟩ := hA.book.reach
  have hr := hR2.stay h.stay (by omega) (by omega)
  obtain ⟨NX, hN, e0, e1, e2, e3, ev⟩ := h.next
  refine ⟨fb 0 (by omega) (by omega) (by omega), fb 3 (by omega) (by omega) (by omega), fb 6 (by omega) (by omega) (by omega), fb 7 (by omega) (by omega) (by omega), fb 8 (by omega) (by omega) (by omega), ?_, ?_, fb 21 (by omega) (by omega) (by omega), fb 22 (by omega) (by omega) (by omega), fun v hv => ?_, fun v hv => ?_, fun v hv => ?_, fun v hv => ?_, fun v hv => ?_,
    ?_, ?_, ?_, ?_, h.words, fun v hv hvp => ?_, fun v hv hvp => ?_, fun v hv hvp => ?_, fun v hv hvp => ?_, fun v hv => ?_, fun v hv => ?_, hT, fun i hi => ?_⟩
  · rw [h.book.cell (by omega), upd_same]
  · rw [h.book.cell (by omega), upd_ne _ _ (by omega), upd_same]
  · rw [hr.cell (by omega), (hd2 v hv).1]
  · rw [hr.cell (by omega), (hd2 v hv).2.1]
  · rw [hr.cell (by omega), (hd2 v hv).2.2.1]
  · rw [hr.cell (by omega), (hd2 v hv).2.2.2]
  · obtain ⟨b1, b2, b3, G', b4, b5⟩ := hA.book.words v hv
    have b6 := b4.lt
    rw [(b4.stay h.stay (by omega) (by omega)).cell (by omega), b5]
  · rw [hN.cell (by omega), e0]
  · rw [hN.cell (by omega), e1]
  · rw [hN.cell (by omega), e2]
  · rw [hN.cell (by omega), e3]
  · rw [hN.cell (by omega), (ev v hvp).1]
  · rw [hN.cell (by omega), (ev v hvp).2.1]
  · rw [hN.cell (by omega), (ev v hvp).2.2.1]
  · rw [hN.cell (by omega), (ev v hvp).2.2.2]
  · rw [h.took.cell (by omega), upd_ne _ _ (by omega)]
  · rw [h.took.cell (by omega)]
    by_cases e : v = p
    · subst e; rw [upd_same, if_pos rfl]
    · rw [upd_ne _ _ (by omega), if_neg e]; rfl
  · rw [h.set_.cell (by omega)]
    by_cases e : i = p / 64
    · subst e; rw [upd_same, if_pos rfl]
    · rw [upd_ne _ _ (by omega), if_neg e]; rfl
theorem new_two (w : World) (a b : Value) (t : TypeId) : (w.alloc (.cells #[a, b] t)).cell? ⟨w.heap.size, 0, none⟩ = some a ∧ (w.alloc (.cells #[a, b] t)).cell? ⟨w.heap.size, 1, none⟩ = some b := by
  have h0 := cell_two_new w a b t 0 a rfl
  have h1 := cell_two_new w a b t 1 b rfl
  rw [add_mid] at h0 h1
  exact ⟨h0, h1⟩
theorem new_four (w : World) (a b c d : Value) (t : TypeId) : (w.alloc (.cells #[a, b, c, d] t)).cell? ⟨w.heap.size, 0, none⟩ = some a ∧ (w.alloc (.cells #[a, b, c, d] t)).cell? ⟨w.heap.size, 1, none⟩ = some b ∧ (w.alloc (.cells #[a, b, c, d] t)).cell? ⟨w.heap.size, 2, none⟩ = some c ∧ (w.alloc (.cells #[a, b, c, d] t)).cell? ⟨w.heap.size, 3, none⟩ = some d := by
  have hnew := (MapKept.heap_alloc w (.cells #[a, b, c, d] t)).1
  refine ⟨?_, ?_, ?_, ?_⟩ <;> (unfold World.cell?; simp only [hnew]; rfl)
theorem wrap_pow (v : Nat) : IntKind.u64.wrap ((2 : Int) ^ (v % 64)) = (2 : Int) ^ (v % 64) := by
  have hp : (2 : Nat) ^ (v % 64) < 2 ^ 64 := Nat.pow_lt_pow_right (by decide) (by omega)
  have e : ((2 : Int) ^ (v % 64)) = ((2 ^ (v % 64) : Nat) : Int) := by simp
  rw [e, IntKind.wrap_u64]
  generalize (2 : Nat) ^ (v % 64) = P at hp ⊢
  omega
end Go.Proofs.Ybulkeamg
