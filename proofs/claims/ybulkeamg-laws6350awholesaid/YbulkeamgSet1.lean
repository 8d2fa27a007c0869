/- S6350A: settle, its first loop. -/
import Derived.Test.YbulkeamgBookW
import Derived.Test.YbulkeamgPlain
import Derived.Laws.OwnMore
namespace Go.Proofs.Ybulkeamg
open Go.RowKit
set_option linter.unusedSimpArgs false

noncomputable def dropSeq : Nat → Code → Code
  | 0, c => c
  | k + 1, .seq _ b => dropSeq k b
  | _, c => c
noncomputable def bodyOf (f : Func) : Code := f.body.getD .skip

/-- What settle is called with. -/
structure Ask (n : Nat) (m : Int) (p L : Nat) (FQ : Nat → Nat) (w0 w : World) (Bb : Nat) (B Bw cw : Nat → Nat) (base : Nat) (sA : Option Addr) (Bf : Nat) : Prop where
  book : Book n m w0 w Bb B Bw cw base n
  n1 : n ≤ 200
  p1 : p < n
  l1 : L ≤ 65536
  q1 : ∀ j, j < L → FQ j < n
  at_ : 0 < L → sA = some ⟨Bf, 0, none⟩ ∧ Bf < w0.heap.size
  from_ : ∀ j, j < L → w.cell? ⟨Bf, j, none⟩ = some (.int .i32 (FQ j))

/-- Behind k rounds of the first loop. -/
structure L1 (n : Nat) (m : Int) (p : Nat) (FQ : Nat → Nat) (ws w : World) (Bb : Nat) (B : Nat → Nat) (k : Nat) (vT : Value) : Prop where
  book : Row w Bb 27 46 (upd (bookF n m B) 20 vT)
  own : w.ownsRow ws.heap.size 33 2 vT (tkn p FQ k).length (pairs p (tkn p FQ k))
  took : Row w (B 7) (n * 2) 49 (fun _ => .int .i64 0)
  stay : Stay ws.heap.size (fun b => b = Bb ∨ b = B 7) ws w

theorem own_form {w : World} {base : Nat} {e : TypeId} {s : Nat} {v : Value} {n : Nat} {xs : List Value} (h : w.ownsRow base e s v n xs) : ∃ ao c, v = .slice ao n c := by
  obtain ⟨_, ⟨rfl, rfl⟩ | ⟨g, cap, cur, rfl, _⟩⟩ := h
  · exact ⟨_, _, rfl⟩
  · exact ⟨_, _, rfl⟩
theorem grown_set (w : World) (b k : Nat) (v : Value) : w.grownBy (w.setCell ⟨b, k, none⟩ v) (some b) :=
  ⟨rfl, rfl, rfl, by simp [World.setCell], fun i _ hne => Below.heap_setCell _ _ _ _ (fun e => hne (by rw [e]))⟩
theorem Stay.grown {n : Nat} {S : Nat → Prop} {w w1 w2 : World} {row : Option Nat} (h : Stay n S w w1) (hg : w1.grownBy w2 row) (hn : n ≤ w1.heap.size) (hrow : ∀ k, row = some k → n ≤ k ∨ S k) : Stay n S w w2 :=
  ⟨hg.os.trans h.os, hg.tape.trans h.tape, hg.output.trans h.output, Nat.le_trans h.size hg.size, fun b hb hs => (hg.block b (by omega) (fun e => by
    rcases hrow b e.symm with q | q
    · omega
    · exact hs q)).trans (h.block b hb hs)⟩
theorem cell_two_new (w : World) (a b : Value) (t : TypeId) : ∀ (j : Nat) (u : Value), [a, b][j]? = some u → (w.alloc (.cells #[a, b] t)).cell? ((⟨w.heap.size, 0, none⟩ : Addr).add j) = some u := by
  intro j u hj
  have hnew := (MapKept.heap_alloc w (.cells #[a, b] t)).1
  rcases (show j = 0 ∨ j = 1 ∨ 2 ≤ j by omega) with rfl | rfl | h
  · simp at hj; subst hj
    have e : (⟨w.heap.size, 0, none⟩ : Addr).add 0 = ⟨w.heap.size, 0, none⟩ := by simp [Addr.add]
    rw [e]; unfold World.cell?; simp only [hnew]; rfl
  · simp at hj; subst hj
    have e : (⟨w.heap.size, 0, none⟩ : Addr).add 1 = ⟨w.heap.size, 1, none⟩ := by simp [Addr.add]
    rw [e]; unfold World.cell?; simp only [hnew]; rfl
  · rw [List.getElem?_eq_none (by simpa using h)] at hj; cases hj
theorem Row.grown {w w' : World} {b N : Nat} {t : TypeId} {F : Nat → Value} {row : Option Nat} (h : Row w b N t F) (hg : w.grownBy w' row) (hne : some b ≠ row) : Row w' b N t F := (hg.block b h.lt hne).trans h

theorem L1.step {n : Nat} {m : Int} {p : Nat} {FQ : Nat → Nat} {ws w w2 : World} {Bb : Nat} {B : Nat → Nat} {k : Nat} {vT v' : Value} {pr : Obj} (h : L1 n m p FQ ws w Bb B k vT) (hq : FQ k ≠ p) (hb : Bb < ws.heap.size) (h7 : B 7 < ws.heap.size) (hne : B 7 ≠ Bb)
    (hown : w2.ownsRow ws.heap.size 33 2 v' ((tkn p FQ k).length + 1) (pairs p (tkn p FQ k) ++ [.int .i32 (FQ k), .int .i32 p])) (hg : (w.alloc pr).grownBy w2 vT.ownBlock) : L1 n m p FQ ws (w2.setCell ⟨Bb, 20, none⟩ v') Bb B (k + 1) v' := by
  have hl := h.own.lt
  have hsz := h.stay.size
  have r1 := (h.book.alloc pr).grown hg (fun e => by have := hl _ e.symm; omega)
  have r7 := (h.took.alloc pr).grown hg (fun e => by have := hl _ e.symm; omega)
  have et : tkn p FQ (k + 1) = tkn p FQ k ++ [FQ k] := by simp [tkn, hq]
  refine ⟨?_, ?_, r7.other _ hne, ?_⟩
  · have := r1.set (k := 20) v'
    have e : upd (upd (bookF n m B) 20 vT) 20 v' = upd (bookF n m B) 20 v' := by
      funext j; simp only [upd]; split <;> rfl
    rwa [e] at this
  · rw [et, pairs_snoc, List.length_append]
    exact hown.kept (grown_set _ _ _ _) (.inr fun e => by have := hown.lt _ e; omega)
  · exact ((h.stay.alloc hsz pr).grown hg (by simp; omega) (fun k e => .inl (hl k e).1)).set _ (.inr (.inl rfl))
theorem L1.skip {n : Nat} {m : Int} {p : Nat} {FQ : Nat → Nat} {ws w : World} {Bb : Nat} {B : Nat → Nat} {k : Nat} {vT : Value} (h : L1 n m p FQ ws w Bb B k vT) (hq : FQ k = p) : L1 n m p FQ ws w Bb B (k + 1) vT :=
  ⟨h.book, by rw [(lo_skip hq).2.2]; exact h.own, h.took, h.stay⟩
theorem L1.drewN {n : Nat} {m : Int} {p : Nat} {FQ : Nat → Nat} {ws w : World} {Bb : Nat} {B : Nat → Nat} {k : Nat} {vT : Value} (h : L1 n m p FQ ws w Bb B k vT) (q : Nat) : L1 n m p FQ ws (w.drewN q) Bb B k vT :=
  ⟨h.book, h.own, h.took, h.stay.drewN q⟩
theorem L1.start {n : Nat} {m : Int} {p L : Nat} {FQ : Nat → Nat} {w0 ws w : World} {Bb : Nat} {B Bw cw : Nat → Nat} {base : Nat} {sA : Option Addr} {Bf : Nat} (h : Ask n m p L FQ w0 ws Bb B Bw cw base sA Bf)
    (q : Nat) (e : w = (ws.drewN q).setCell ⟨B 7, p * 2, none⟩ (.int .i64 0)) : L1 n m p FQ ws w Bb B 0 (.slice none 0 0) := by
  subst e
  have hne := (h.book.low 7 (by omega)).2.2
  refine ⟨?_, World.ownsRow_nil _ _ _ _, ?_, ((Stay.refl _ _ ws).drewN q).set _ (.inr (.inr rfl))⟩
  · have e : upd (bookF n m B) 20 (.slice none 0 0) = bookF n m B := by
      funext j; simp only [upd]; split
      · rename_i e; subst e; rfl
      · rfl
    rw [e]
    exact (h.book.book.drewN q).other _ (Ne.symm hne)
  · have := (h.book.took.drewN q).set (k := p * 2) (.int .i64 0)
    have e : upd (fun _ => Value.int .i64 0) (p * 2) (.int .i64 0) = fun _ => Value.int .i64 0 := by
      funext j; simp only [upd]; split <;> rfl
    rwa [e] at this
theorem Stay.cell {n : Nat} {S : Nat → Prop} {w w' : World} (h : Stay n S w w') (b k : Nat) (hb : b < n) (hs : ¬ S b) : w'.cell? ⟨b, k, none⟩ = w.cell? ⟨b, k, none⟩ := World.cell?_of_block (h.block b hb hs)

/-- Behind the first loop, the span noted. -/
structure S2 (n : Nat) (m : Int) (p L : Nat) (FQ : Nat → Nat) (ws w : World) (Bb : Nat) (B : Nat → Nat) (vT : Value) : Prop where
  book : Row w Bb 27 46 (upd (bookF n m B) 20 vT)
  own : w.ownsRow ws.heap.size 33 2 vT (tkn p FQ L).length (pairs p (tkn p FQ L))
  took : Row w (B 7) (n * 2) 49 (upd (fun _ => .int .i64 0) (p * 2 + 1) (.int .i64 ((tkn p FQ L).length : Nat)))
  stay : Stay ws.heap.size (fun b => b = Bb ∨ b = B 7) ws w
theorem L1.done {n : Nat} {m : Int} {p L : Nat} {FQ : Nat → Nat} {ws w : World} {Bb : Nat} {B : Nat → Nat} {vT : Value} (h : L1 n m p FQ ws w Bb B L vT) (h7 : B 7 < ws.heap.size) (hne : B 7 ≠ Bb) : S2 n m p L FQ ws (w.setCell ⟨B 7, p * 2 + 1, none⟩ (.int .i64 ((tkn p FQ L).length : Nat))) Bb B vT :=
  ⟨h.book.other _ (Ne.symm hne), h.own.kept (grown_set _ _ _ _) (.inr fun e => by have := h.own.lt _ e; omega), h.took.set _, h.stay.set _ (.inr (.inr rfl))⟩

/-- What a round of the first loop reads. -/
theorem L1.reads {n : Nat} {m : Int} {p L : Nat} {FQ : Nat → Nat} {w0 ws w : World} {Bb : Nat} {B Bw cw : Nat → Nat} {base : Nat} {sA : Option Addr} {Bf k : Nat} {vT : Value} (hA : Ask n m p L FQ w0 ws Bb B Bw cw base sA Bf) (h : L1 n m p FQ ws w Bb B k vT) :
    (∀ j, j < L → w.cell? ⟨Bf, j, none⟩ = some (.int .i32 (FQ j))) ∧ w.cell? ⟨Bb, 6, none⟩ = some (.slice (some ⟨B 2, 0, none⟩) n n) ∧ w.cell? ⟨Bb, 20, none⟩ = some vT ∧ w.frozen? ⟨Bb, 20, none⟩ = false ∧ w.cell? ⟨Bb, 22, none⟩ = some (.slice (some ⟨B 7, 0, none⟩) n n) ∧ w.cell? ⟨Bb, 7, none⟩ = some (.slice (some ⟨B 3, 0, none⟩) n n) ∧
    (∀ v, v < n → w.cell? ⟨B 2, v * 4, none⟩ = some (.int .i64 0) ∧ w.cell? ⟨B 2, v * 4 + 1, none⟩ = some (.int .i64 (v / 64 : Nat)) ∧ w.cell? ⟨B 2, v * 4 + 2, none⟩ = some (.int .i64 1) ∧ w.cell? ⟨B 2, v * 4 + 3, none⟩ = some (.slice (some ⟨Bw v, 0, none⟩) 1 (cw v)) ∧ w.cell? ⟨Bw v, 0, none⟩ = some (.int .u64 (2 ^ (v % 64) : Nat))) := by
  have hs := hA.book.size
  have lb := hA.book.lowb
  have l7 := hA.book.low 7 (by omega)
  have l2 := hA.book.low 2 (by omega)
  refine ⟨fun j hj => ?_, ?_, ?_, h.book.frozen, ?_, ?_, fun v hv => ?_⟩
  · have := hA.at_ (by omega)
    rw [h.stay.cell Bf j (by omega) (by omega)]
    exact hA.from_ j hj
  · rw [h.book.cell (by omega), upd_ne _ _ (by omega)]; rfl
  · rw [h.book.cell (by omega), upd_same]
  · rw [h.book.cell (by omega), upd_ne _ _ (by omega)]; rfl
  · rw [h.book.cell (by omega), upd_ne _ _ (by omega)]; rfl
  · obtain ⟨H2, hR2, _, hd2⟩ := hA.book.reach
    obtain ⟨d0, d1, d2, d3⟩ := hd2 v hv
    obtain ⟨b1, b2, b3, G, b4, b5⟩ := hA.book.words v hv
    have n27 := hA.book.ne 2 7 (by omega) (by omega) (by omega)
    have b6 := b4.lt
    have hr := hR2.stay h.stay (by omega) (by omega)
    refine ⟨?_, ?_, ?_, ?_, ?_⟩
    · rw [hr.cell (by omega), d0]
    · rw [hr.cell (by omega), d1]
    · rw [hr.cell (by omega), d2]
    · rw [hr.cell (by omega), d3]
    · rw [(b4.stay h.stay (by omega) (by omega)).cell (by omega), b5]
end Go.Proofs.Ybulkeamg
