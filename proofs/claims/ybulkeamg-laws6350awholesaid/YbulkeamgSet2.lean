/- S6350A: settle, behind its first loop. -/
import Derived.Test.YbulkeamgSet1
namespace Go.Proofs.Ybulkeamg
open Go.RowKit
set_option linter.unusedSimpArgs false

def zF (k : Nat) : Value := z38[k % 4]!
theorem zF0 (v : Nat) : zF (v * 4) = .int .i64 0 := by unfold zF; rw [show v * 4 % 4 = 0 by omega]; rfl
theorem zF1 (v : Nat) : zF (v * 4 + 1) = .int .i64 0 := by unfold zF; rw [show (v * 4 + 1) % 4 = 1 by omega]; rfl
theorem zF2 (v : Nat) : zF (v * 4 + 2) = .int .i64 0 := by unfold zF; rw [show (v * 4 + 2) % 4 = 2 by omega]; rfl
theorem zF3 (v : Nat) : zF (v * 4 + 3) = .slice none 0 0 := by unfold zF; rw [show (v * 4 + 3) % 4 = 3 by omega]; rfl

/-- The words of a set, W of them from lo on. -/
def gW (S : Nat → Bool) (lo W d : Nat) : Nat := if d < W then wordOf S (lo + d) else 0
theorem gW_lt (S : Nat → Bool) (lo W d : Nat) : gW S lo W d < 18446744073709551616 := by
  unfold gW; split
  · exact wordOf_lt _ _
  · omega
theorem gW_insert (S : Nat → Bool) (lo W d q : Nat) (hd : d < W) (hq : q / 64 = lo + d) : updN (gW S lo W) d (gW S lo W d ||| 2 ^ (q % 64)) = gW (fun v => S v || v == q) lo W := by
  funext j
  simp only [updN]
  split
  · rename_i e; subst e
    unfold gW
    rw [if_pos hd, if_pos hd, wordOf_insert, if_pos hq]
  · rename_i e
    unfold gW
    split
    · rw [wordOf_insert, if_neg (by omega)]
    · rfl
theorem gW_empty (lo W : Nat) : gW (fun _ => false) lo W = fun _ => 0 := by
  funext d; unfold gW; rw [wordOf_empty]; simp

theorem gW_first (p : Nat) (FQ : Nat → Nat) (lo W d : Nat) (hd : d < W) (hq : p / 64 = lo + d) : updN (fun _ => 0) d (0 ||| 2 ^ (p % 64)) = gW (inn p FQ 0) lo W := by
  have := gW_insert (fun _ => false) lo W d p hd hq
  rw [gW_empty] at this
  rw [this]
  have e : (fun v => false || v == p) = inn p FQ 0 := by funext v; simp [inn]
  rw [e]
theorem gW_next (p : Nat) (FQ : Nat → Nat) (k lo W d : Nat) (hd : d < W) (hq : FQ k / 64 = lo + d) : updN (gW (inn p FQ k) lo W) d (gW (inn p FQ k) lo W d ||| 2 ^ (FQ k % 64)) = gW (inn p FQ (k + 1)) lo W :=
  gW_insert (inn p FQ k) lo W d (FQ k) hd hq

/-- next being laid: its words are G. -/
structure L2 (n : Nat) (m : Int) (p L : Nat) (FQ : Nat → Nat) (ws w : World) (Bb : Nat) (B : Nat → Nat) (vT : Value) (lo W Bx c : Nat) (G : Nat → Nat) : Prop where
  book : Row w Bb 27 46 (upd (bookF n m B) 20 vT)
  own : w.ownsRow ws.heap.size 33 2 vT (tkn p FQ L).length (pairs p (tkn p FQ L))
  took : Row w (B 7) (n * 2) 49 (upd (fun _ => .int .i64 0) (p * 2 + 1) (.int .i64 ((tkn p FQ L).length : Nat)))
  next : Row w (B 3) (n * 4) 38 (upd4 zF (p * 4) 0 lo W (.slice (some ⟨Bx, 0, none⟩) (2 * W) c))
  words : Row w Bx c 35 (fun d => .int .u64 (G d))
  stay : Stay ws.heap.size (fun b => b = Bb ∨ b = B 7 ∨ b = B 3) ws w
  bx : ws.heap.size ≤ Bx
  vlt : ∀ k, vT.ownBlock = some k → k < Bx
  cw : 2 * W ≤ c
  cm : c ≤ maxLen

theorem L2.drewN {n : Nat} {m : Int} {p L : Nat} {FQ : Nat → Nat} {ws w : World} {Bb : Nat} {B : Nat → Nat} {vT : Value} {lo W Bx c : Nat} {G : Nat → Nat} (h : L2 n m p L FQ ws w Bb B vT lo W Bx c G) (q : Nat) : L2 n m p L FQ ws (w.drewN q) Bb B vT lo W Bx c G :=
  ⟨h.book, h.own, h.took, h.next, h.words, h.stay.drewN q, h.bx, h.vlt, h.cw, h.cm⟩
theorem L2.set {n : Nat} {m : Int} {p L : Nat} {FQ : Nat → Nat} {ws w : World} {Bb : Nat} {B : Nat → Nat} {vT : Value} {lo W Bx c : Nat} {G : Nat → Nat} (h : L2 n m p L FQ ws w Bb B vT lo W Bx c G) (hb : Bb < ws.heap.size) (h7 : B 7 < ws.heap.size) (h3 : B 3 < ws.heap.size) (d x : Nat) :
    L2 n m p L FQ ws (w.setCell ⟨Bx, d, none⟩ (.int .u64 x)) Bb B vT lo W Bx c (updN G d x) := by
  have hx := h.bx
  refine ⟨h.book.other _ (by omega), h.own.kept (grown_set _ _ _ _) (.inr fun e => ?_), h.took.other _ (by omega), h.next.other _ (by omega), ?_, h.stay.set _ (.inl hx), hx, h.vlt, h.cw, h.cm⟩
  · have := h.vlt _ e; omega
  · have := h.words.set (k := d) (.int .u64 x)
    have e : upd (fun d => Value.int .u64 (G d)) d (.int .u64 x) = fun j => Value.int .u64 (updN G d x j) := by
      funext j; simp only [upd, updN]; split <;> rfl
    rwa [e] at this
theorem L2.start {n : Nat} {m : Int} {p L : Nat} {FQ : Nat → Nat} {ws w w1 : World} {Bb : Nat} {B : Nat → Nat} {vT : Value} {lo W c : Nat} (h : S2 n m p L FQ ws w Bb B vT) (hb : Bb < ws.heap.size) (h7 : B 7 < ws.heap.size) (h3 : B 3 < ws.heap.size) (nb : Bb ≠ B 3) (n7 : B 7 ≠ B 3)
    (R : Row w1 (B 3) (n * 4) 38 (upd4 zF (p * 4) 0 lo W (.slice (some ⟨w.heap.size, 0, none⟩) (2 * W) c))) (N : Row w1 w.heap.size c 35 (fun _ => .int .u64 0)) (S : Stay w.heap.size (fun b => b = B 3) w w1) (hc : 2 * W ≤ c) (hcm : c ≤ maxLen) :
    L2 n m p L FQ ws w1 Bb B vT lo W w.heap.size c (fun _ => 0) := by
  have hsz := h.stay.size
  have _ := hb
  have _ := h7
  refine ⟨h.book.stay S h.book.lt nb, ?_, h.took.stay S h.took.lt n7, R, N, ⟨S.os.trans h.stay.os, S.tape.trans h.stay.tape, S.output.trans h.stay.output, Nat.le_trans hsz S.size, fun b hb hs => ?_⟩, hsz, fun k e => (h.own.lt k e).2, hc, hcm⟩
  · refine h.own.kept (row := some (B 3)) ⟨S.os, S.tape, S.output, S.size, fun k hk hne => S.block k hk (fun e => hne (by rw [e]))⟩ ?_
    refine .inr fun e2 => ?_
    have h1 := h.own.lt _ e2
    omega
  · rw [S.block b (by omega) (fun e => hs (.inr (.inr e)))]
    exact h.stay.block b hb (fun e => hs (e.elim .inl (fun e => .inr (.inl e))))

/-- What is read behind the first loop. -/
theorem L2.reads {n : Nat} {m : Int} {p L : Nat} {FQ : Nat → Nat} {w0 ws w : World} {Bb : Nat} {B Bw cw : Nat → Nat} {base : Nat} {sA : Option Addr} {Bf : Nat} {vT : Value} {lo W Bx c : Nat} {G : Nat → Nat} (hA : Ask n m p L FQ w0 ws Bb B Bw cw base sA Bf) (h : L2 n m p L FQ ws w Bb B vT lo W Bx c G) :
    (∀ j, j < L → w.cell? ⟨Bf, j, none⟩ = some (.int .i32 (FQ j))) ∧ w.cell? ⟨Bb, 6, none⟩ = some (.slice (some ⟨B 2, 0, none⟩) n n) ∧ w.cell? ⟨Bb, 0, none⟩ = some (.int .i64 n) ∧
    (w.cell? ⟨B 3, p * 4, none⟩ = some (.int .i64 (0 : Nat)) ∧ w.cell? ⟨B 3, p * 4 + 1, none⟩ = some (.int .i64 lo) ∧ w.cell? ⟨B 3, p * 4 + 2, none⟩ = some (.int .i64 W) ∧ w.cell? ⟨B 3, p * 4 + 3, none⟩ = some (.slice (some ⟨Bx, 0, none⟩) (2 * W : Nat) c)) ∧
    (∀ v d, v < n → d < c → OrAt w (B 2) (v * 4) (v / 64) (Bw v) (cw v) (B 3) (p * 4) lo W (2 * W) c Bx d (2 ^ (v % 64) : Nat) (G d)) ∧ (∀ v, v < n → 1 ≤ cw v ∧ cw v ≤ maxLen) := by
  have hs := hA.book.size
  have lb := hA.book.lowb
  have l7 := hA.book.low 7 (by omega)
  have l2 := hA.book.low 2 (by omega)
  have l3 := hA.book.low 3 (by omega)
  have hp := hA.p1
  have n23 := hA.book.ne 2 3 (by omega) (by omega) (by omega)
  have k0 := h.next.cell (k := p * 4) (by omega)
  have k1 := h.next.cell (k := p * 4 + 1) (by omega)
  have k2 := h.next.cell (k := p * 4 + 2) (by omega)
  have k3 := h.next.cell (k := p * 4 + 3) (by omega)
  unfold upd4 at k0 k1 k2 k3
  rw [upd_ne _ _ (by omega), upd_ne _ _ (by omega), upd_ne _ _ (by omega), upd_same] at k0
  rw [upd_ne _ _ (by omega), upd_ne _ _ (by omega), upd_same] at k1
  rw [upd_ne _ _ (by omega), upd_same] at k2
  rw [upd_same] at k3
  refine ⟨fun j hj => ?_, ?_, ?_, ⟨k0, k1, k2, k3⟩, fun v d hv hd => ?_, fun v hv => ?_⟩
  · have := hA.at_ (by omega)
    rw [h.stay.cell Bf j (by omega) (by omega)]
    exact hA.from_ j hj
  · rw [h.book.cell (by omega), upd_ne _ _ (by omega)]; rfl
  · rw [h.book.cell (by omega), upd_ne _ _ (by omega)]; rfl
  · obtain ⟨H2, hR2, _, hd2⟩ := hA.book.reach
    obtain ⟨d0, d1, d2, d3⟩ := hd2 v hv
    obtain ⟨b1, b2, b3, G', b4, b5⟩ := hA.book.words v hv
    have n27 := hA.book.ne 2 7 (by omega) (by omega) (by omega)
    have b6 := b4.lt
    have hr := hR2.stay h.stay (by omega) (by omega)
    refine ⟨?_, ?_, ?_, ?_, ?_, k0, k1, k2, k3, h.words.cell hd, h.words.frozen⟩
    · rw [hr.cell (by omega), d0]
    · rw [hr.cell (by omega), d1]
    · rw [hr.cell (by omega), d2]
    · rw [hr.cell (by omega), d3]
    · rw [(b4.stay h.stay (by omega) (by omega)).cell (by omega), b5]
  · obtain ⟨_, b2, b3, _⟩ := hA.book.words v hv
    exact ⟨b2, b3⟩

theorem or_any (R o s Bs cs R2 o2 f W n c Bw d : Nat) (x g : Nat) (w : World) (h : OrAt w R o s Bs cs R2 o2 f W n c Bw d x g) (hs : s ≤ 1000) (hcs : 1 ≤ cs) (hcs2 : cs ≤ maxLen) (hf : f ≤ s) (hd : (s : Int) - f = d) (hW : d < W) (hW2 : W ≤ 1000) (hn : 1 ≤ n) (hnc : n ≤ c) (hWc : W ≤ c) (hc : c ≤ maxLen) (hx : x < 18446744073709551616) (hg : g < 18446744073709551616) :
    Calls Yba.prog 12 #[.pointer (some ⟨R, o, none⟩), .pointer (some ⟨R2, o2, none⟩), .int .i64 0, .int .i64 1] w fun e w' => e = .returned (.tuple #[]) ∧ ∃ q, w' = (w.setCell ⟨Bw, d, none⟩ (.int .u64 (g ||| x : Nat))).drewN q := by
  have eb := bits_or_u64_nat g x hg hx
  by_cases e : s = f ∧ W = 1
  · obtain ⟨rfl, rfl⟩ := e
    obtain rfl : d = 0 := by omega
    have := or_same R o s Bs cs R2 o2 n c Bw x g w h hs hcs hcs2 hn hnc hc
    rwa [eb] at this
  · have := or_wide R o s Bs cs R2 o2 f W n c Bw d x g w h e hs hcs hcs2 hf hd hW hW2 hWc hc
    rwa [eb] at this

theorem own_stay {w w' : World} {base : Nat} {e : TypeId} {s : Nat} {v : Value} {k : Nat} {xs : List Value} {n : Nat} {S : Nat → Prop} (h : w.ownsRow base e s v k xs) (hs : Stay n S w w') (hv : ∀ b, v.ownBlock = some b → b < n ∧ ¬ S b) : w'.ownsRow base e s v k xs := by
  obtain ⟨h1, ⟨rfl, rfl⟩ | ⟨g, cap, cur, rfl, h2, h3, h4⟩⟩ := h
  · exact ⟨h1, .inl ⟨rfl, rfl⟩⟩
  · obtain ⟨q1, q2⟩ := hv g rfl
    exact ⟨h1, .inr ⟨g, cap, cur, rfl, h2, (hs.block g q1 q2).trans h3, h4⟩⟩

/-- next laid: base b, len words G. -/
structure Pre (n : Nat) (m : Int) (p L : Nat) (FQ : Nat → Nat) (ws w : World) (Bb : Nat) (B : Nat → Nat) (vT : Value) (lo W Bx c b len : Nat) (G : Nat → Nat) : Prop where
  book : Row w Bb 27 46 (upd (bookF n m B) 20 vT)
  own : w.ownsRow ws.heap.size 33 2 vT (tkn p FQ L).length (pairs p (tkn p FQ L))
  took : Row w (B 7) (n * 2) 49 (upd (fun _ => .int .i64 0) (p * 2 + 1) (.int .i64 ((tkn p FQ L).length : Nat)))
  next : ∃ NX, Row w (B 3) (n * 4) 38 NX ∧ NX (p * 4) = .int .i64 b ∧ NX (p * 4 + 1) = .int .i64 lo ∧ NX (p * 4 + 2) = .int .i64 W ∧ NX (p * 4 + 3) = .slice (some ⟨Bx, 0, none⟩) len c ∧ ∀ v, v ≠ p → NX (v * 4) = .int .i64 0 ∧ NX (v * 4 + 1) = .int .i64 0 ∧ NX (v * 4 + 2) = .int .i64 0 ∧ NX (v * 4 + 3) = .slice none 0 0
  words : ∀ d, d < len → w.cell? ⟨Bx, d, none⟩ = some (.int .u64 (G d))
  stay : Stay ws.heap.size (fun b => b = Bb ∨ b = B 7 ∨ b = B 3) ws w
  bx : ws.heap.size ≤ Bx ∧ Bx < w.heap.size
  vlt : ∀ k, vT.ownBlock = some k → k < Bx
  cw : len ≤ c

theorem L2.pre {n : Nat} {m : Int} {p L : Nat} {FQ : Nat → Nat} {ws w : World} {Bb : Nat} {B : Nat → Nat} {vT : Value} {lo W Bx c : Nat} {G : Nat → Nat} (h : L2 n m p L FQ ws w Bb B vT lo W Bx c G) : Pre n m p L FQ ws w Bb B vT lo W Bx c 0 (2 * W) G := by
  refine ⟨h.book, h.own, h.took, ⟨_, h.next, ?_, ?_, ?_, ?_, fun v hv => ?_⟩, fun d hd => h.words.cell (by have := h.cw; omega), h.stay, ⟨h.bx, h.words.lt⟩, h.vlt, h.cw⟩
  · unfold upd4; rw [upd_ne _ _ (by omega), upd_ne _ _ (by omega), upd_ne _ _ (by omega), upd_same]
  · unfold upd4; rw [upd_ne _ _ (by omega), upd_ne _ _ (by omega), upd_same]
  · unfold upd4; rw [upd_ne _ _ (by omega), upd_same]
  · unfold upd4; rw [upd_same]
  · unfold upd4
    refine ⟨?_, ?_, ?_, ?_⟩
    · rw [upd_ne _ _ (by omega), upd_ne _ _ (by omega), upd_ne _ _ (by omega), upd_ne _ _ (by omega), zF0]
    · rw [upd_ne _ _ (by omega), upd_ne _ _ (by omega), upd_ne _ _ (by omega), upd_ne _ _ (by omega), zF1]
    · rw [upd_ne _ _ (by omega), upd_ne _ _ (by omega), upd_ne _ _ (by omega), upd_ne _ _ (by omega), zF2]
    · rw [upd_ne _ _ (by omega), upd_ne _ _ (by omega), upd_ne _ _ (by omega), upd_ne _ _ (by omega), zF3]

theorem L2.dropped {n : Nat} {m : Int} {p L : Nat} {FQ : Nat → Nat} {ws w w' : World} {Bb : Nat} {B : Nat → Nat} {vT : Value} {lo W Bx c : Nat} {G : Nat → Nat} (h : L2 n m p L FQ ws w Bb B vT lo W Bx c G) (hb : Bb < ws.heap.size ∧ B 7 < ws.heap.size ∧ B 3 < ws.heap.size) (nb : Bb ≠ B 3) (n7 : B 7 ≠ B 3)
    (R : Row w' (B 3) (n * 4) 38 (upd (upd (upd4 zF (p * 4) 0 lo W (.slice (some ⟨Bx, 0, none⟩) (2 * W) c)) (p * 4) (.int .i64 (((0 : Nat) : Int) + 1))) (p * 4 + 3) (.slice (some ⟨Bx, 0, none⟩) W c))) (Rw : Row w' Bx c 35 (updL (fun d => .int .u64 (G d)) 0 ((List.range W).map fun j => .int .u64 (G (W + j)))))
    (S : Stay w.heap.size (fun b => b = B 3 ∨ b = Bx) w w') : Pre n m p L FQ ws w' Bb B vT lo W Bx c 1 W (fun d => G (W + d)) := by
  have hx := h.bx
  have hc := h.cw
  have hsz := h.stay.size
  refine ⟨h.book.stay S h.book.lt (by omega), own_stay h.own S (fun b e => ?_), h.took.stay S h.took.lt (by omega), ⟨_, R, ?_, ?_, ?_, ?_, fun v hv => ?_⟩, fun d hd => ?_, ?_, ⟨hx, Rw.lt⟩, h.vlt, by omega⟩
  · have h1 := h.own.lt _ e
    have h2 := h.vlt _ e
    exact ⟨h1.2, by omega⟩
  · rw [upd_ne _ _ (by omega), upd_same]; rfl
  · unfold upd4; rw [upd_ne _ _ (by omega), upd_ne _ _ (by omega), upd_ne _ _ (by omega), upd_ne _ _ (by omega), upd_same]
  · unfold upd4; rw [upd_ne _ _ (by omega), upd_ne _ _ (by omega), upd_ne _ _ (by omega), upd_same]
  · rw [upd_same]
  · unfold upd4
    refine ⟨?_, ?_, ?_, ?_⟩
    · rw [upd_ne _ _ (by omega), upd_ne _ _ (by omega), upd_ne _ _ (by omega), upd_ne _ _ (by omega), upd_ne _ _ (by omega), upd_ne _ _ (by omega), zF0]
    · rw [upd_ne _ _ (by omega), upd_ne _ _ (by omega), upd_ne _ _ (by omega), upd_ne _ _ (by omega), upd_ne _ _ (by omega), upd_ne _ _ (by omega), zF1]
    · rw [upd_ne _ _ (by omega), upd_ne _ _ (by omega), upd_ne _ _ (by omega), upd_ne _ _ (by omega), upd_ne _ _ (by omega), upd_ne _ _ (by omega), zF2]
    · rw [upd_ne _ _ (by omega), upd_ne _ _ (by omega), upd_ne _ _ (by omega), upd_ne _ _ (by omega), upd_ne _ _ (by omega), upd_ne _ _ (by omega), zF3]
  · rw [Rw.cell (by omega)]
    have := updL_in ((List.range W).map fun j => Value.int .u64 (G (W + j))) (fun d => .int .u64 (G d)) 0 d (.int .u64 (G (W + d))) (by simp [hd])
    rw [Nat.zero_add] at this
    rw [this]
  · exact ⟨S.os.trans h.stay.os, S.tape.trans h.stay.tape, S.output.trans h.stay.output, Nat.le_trans hsz S.size, fun b hb' hs => (S.block b (by omega) (by omega)).trans (h.stay.block b hb' hs)⟩

theorem Pre.drewN {n : Nat} {m : Int} {p L : Nat} {FQ : Nat → Nat} {ws w : World} {Bb : Nat} {B : Nat → Nat} {vT : Value} {lo W Bx c b len : Nat} {G : Nat → Nat} (h : Pre n m p L FQ ws w Bb B vT lo W Bx c b len G) (q : Nat) : Pre n m p L FQ ws (w.drewN q) Bb B vT lo W Bx c b len G :=
  ⟨h.book, h.own, h.took, h.next, h.words, h.stay.drewN q, h.bx, h.vlt, h.cw⟩

/-- settle's whole work. -/
structure Settled (n : Nat) (m : Int) (p L : Nat) (FQ : Nat → Nat) (ws w : World) (Bb : Nat) (B : Nat → Nat) (vT : Value) (lo W Bx c b len : Nat) (G : Nat → Nat) (Bs cs : Nat) : Prop where
  book : Row w Bb 27 46 (upd (upd (bookF n m B) 20 vT) 12 (.slice (some ⟨Bs, 0, none⟩) (p / 64 + 1) cs))
  set_ : Row w Bs cs 35 (upd (fun _ => .int .u64 0) (p / 64) (.int .u64 (2 ^ (p % 64) : Nat)))
  scs : p / 64 + 1 ≤ cs
  own : w.ownsRow ws.heap.size 33 2 vT (tkn p FQ L).length (pairs p (tkn p FQ L))
  took : Row w (B 7) (n * 2) 49 (upd (fun _ => .int .i64 0) (p * 2 + 1) (.int .i64 ((tkn p FQ L).length : Nat)))
  next : ∃ NX, Row w (B 3) (n * 4) 38 NX ∧ NX (p * 4) = .int .i64 b ∧ NX (p * 4 + 1) = .int .i64 lo ∧ NX (p * 4 + 2) = .int .i64 W ∧ NX (p * 4 + 3) = .slice (some ⟨Bx, 0, none⟩) len c ∧ ∀ v, v ≠ p → NX (v * 4) = .int .i64 0 ∧ NX (v * 4 + 1) = .int .i64 0 ∧ NX (v * 4 + 2) = .int .i64 0 ∧ NX (v * 4 + 3) = .slice none 0 0
  words : ∀ d, d < len → w.cell? ⟨Bx, d, none⟩ = some (.int .u64 (G d))
  stay : Stay ws.heap.size (fun b => b = Bb ∨ b = B 7 ∨ b = B 3) ws w
  cw : len ≤ c

theorem Pre.done {n : Nat} {m : Int} {p L : Nat} {FQ : Nat → Nat} {ws w w' : World} {Bb : Nat} {B : Nat → Nat} {vT : Value} {lo W Bx c b len : Nat} {G : Nat → Nat} {cs : Nat} (h : Pre n m p L FQ ws w Bb B vT lo W Bx c b len G) (hb : Bb < ws.heap.size) (n7 : B 7 ≠ Bb) (n3 : B 3 ≠ Bb)
    (R : Row w' Bb 27 46 (upd (upd (bookF n m B) 20 vT) 12 (.slice (some ⟨w.heap.size, 0, none⟩) (p / 64 + 1) cs))) (N : Row w' w.heap.size cs 35 (upd (fun _ => .int .u64 0) (p / 64) (.int .u64 (bits .or .u64 0 ((2 ^ (p % 64) : Nat) : Int))))) (hc : p / 64 + 1 ≤ cs) (S : Stay w.heap.size (fun b => b = Bb) w w') :
    Settled n m p L FQ ws w' Bb B vT lo W Bx c b len G w.heap.size cs := by
  have hx := h.bx
  have hsz := h.stay.size
  rw [bits_or_zero] at N
  obtain ⟨NX, h1, h2⟩ := h.next
  refine ⟨R, N, hc, own_stay h.own S (fun b e => ?_), h.took.stay S h.took.lt n7, ⟨NX, h1.stay S h1.lt n3, h2⟩, fun d hd => ?_, ?_, h.cw⟩
  · have h1 := h.own.lt _ e
    exact ⟨h1.2, by omega⟩
  · rw [S.cell Bx d hx.2 (by omega)]
    exact h.words d hd
  · exact ⟨S.os.trans h.stay.os, S.tape.trans h.stay.tape, S.output.trans h.stay.output, Nat.le_trans hsz S.size, fun b hb' hs => (S.block b (by omega) (fun e => hs (.inl e))).trans (h.stay.block b hb' hs)⟩

/-- The words of both rounds. -/
def gB (S : Nat → Bool) (p lo W d : Nat) : Nat := if d < W then wordOf S (lo + d) else if d < 2 * W then wordOf (fun v => v == p) (lo + (d - W)) else 0
/-- What settle leaves. -/
def Left (n : Nat) (m : Int) (p L : Nat) (FQ : Nat → Nat) (ws w : World) (Bb : Nat) (B : Nat → Nat) : Prop :=
  ∃ vT Bx c Bs cs, (bsum (inn p FQ L) n = n ∧ Settled n m p L FQ ws w Bb B vT (loK p FQ L) (hiK p FQ L + 1 - loK p FQ L) Bx c 1 (hiK p FQ L + 1 - loK p FQ L) (fun d => gB (inn p FQ L) p (loK p FQ L) (hiK p FQ L + 1 - loK p FQ L) (hiK p FQ L + 1 - loK p FQ L + d)) Bs cs) ∨
    (bsum (inn p FQ L) n ≠ n ∧ Settled n m p L FQ ws w Bb B vT (loK p FQ L) (hiK p FQ L + 1 - loK p FQ L) Bx c 0 (2 * (hiK p FQ L + 1 - loK p FQ L)) (gB (inn p FQ L) p (loK p FQ L) (hiK p FQ L + 1 - loK p FQ L)) Bs cs)
end Go.Proofs.Ybulkeamg
