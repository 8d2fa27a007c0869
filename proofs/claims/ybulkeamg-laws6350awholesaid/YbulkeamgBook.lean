/- S6350A: newQueryBook, the rows made. -/
import Derived.Test.YbulkeamgMake
namespace Go.Proofs.Ybulkeamg
open Go.RowKit
set_option linter.unusedSimpArgs false

theorem info_parts {P : Program} {t : TypeId} {z : Value} {s b : Nat} (h : (P.info? t).map (fun i => (i.zero, i.size, i.bytes)) = some (some z, s, b)) : ∃ i, P.info? t = some i ∧ i.zero = some z ∧ i.size = s ∧ i.bytes = b := by
  cases hi : P.info? t with
  | none => rw [hi] at h; cases h
  | some i =>
    rw [hi] at h
    simp only [Option.map_some, Option.some.injEq, Prod.mk.injEq] at h
    exact ⟨i, rfl, h.1, h.2.1, h.2.2⟩

def tyJ : Nat → TypeId
  | 0 => 39 | 1 => 39 | 2 => 40 | 3 => 40 | 4 => 41 | 5 => 39 | 6 => 39 | 7 => 43 | 8 => 43 | _ => 24
def elJ : Nat → TypeId
  | 0 => 42 | 1 => 42 | 2 => 38 | 3 => 38 | 4 => 55 | 5 => 42 | 6 => 42 | 7 => 49 | 8 => 49 | _ => 21
def szJ : Nat → Nat
  | 0 => 1 | 1 => 1 | 2 => 4 | 3 => 4 | 4 => 9 | 5 => 1 | 6 => 1 | 7 => 2 | 8 => 2 | _ => 1
def z38 : Array Value := #[.int .i64 0, .int .i64 0, .int .i64 0, .slice none 0 0]
def z55 : Array Value := #[.int .i64 0, .bool false, .int .i64 0, .int .i64 0, .int .i64 0, .slice none 0 0, .slice none 0 0, .slice none 0 0, .int .i64 0]
def zJ : Nat → Array Value
  | 0 => #[.slice none 0 0] | 1 => #[.slice none 0 0] | 2 => z38 | 3 => z38 | 4 => z55 | 5 => #[.slice none 0 0] | 6 => #[.slice none 0 0] | 7 => #[.int .i64 0, .int .i64 0] | 8 => #[.int .i64 0, .int .i64 0] | _ => #[.int .i32 0]

theorem make_of {t e : TypeId} {z : Value} {s b : Nat} (hu : Yba.prog.underlying t = some (.slice e)) (h : (Yba.prog.info? e).map (fun i => (i.zero, i.size, i.bytes)) = some (some z, s, b)) (hb : b ≤ 1000) (n : Nat) (hn : n ≤ 1000) (w : World) :
    (Instr.makeSlice t (.int .i64 n) (.int .i64 n)).run Yba.prog w = .ok (.slice (some ⟨w.heap.size, 0, none⟩) n n) (w.alloc (.cells (madeCells z.cells (n * s)) e)) := by
  obtain ⟨i, hi, z0, z1, z2⟩ := info_parts h
  have h1 : b * n ≤ 1000 * 1000 := Nat.mul_le_mul hb hn
  have h2 : ((b * n : Nat) : Int) ≤ 281474976710656 := by omega
  rw [Int.natCast_mul] at h2
  have := run_make (P := Yba.prog) w t e i z hu hi z0 .i64 .i64 n n (by omega) (by omega) (by rw [z2]; exact h2) (by omega)
  rw [z1] at this
  simpa using this

theorem makeJ (n : Nat) (hn : n ≤ 1000) (j : Nat) (hj : j < 10) (w : World) :
    (Instr.makeSlice (tyJ j) (.int .i64 n) (.int .i64 n)).run Yba.prog w = .ok (.slice (some ⟨w.heap.size, 0, none⟩) n n) (w.alloc (.cells (madeCells (zJ j) (n * szJ j)) (elJ j))) := by
  have : j = 0 ∨ j = 1 ∨ j = 2 ∨ j = 3 ∨ j = 4 ∨ j = 5 ∨ j = 6 ∨ j = 7 ∨ j = 8 ∨ j = 9 := by omega
  have i42 : (Yba.prog.info? 42).map (fun i => (i.zero, i.size, i.bytes)) = some (some (.slice none 0 0), 1, 24) := by kernel_rfl
  have i38 : (Yba.prog.info? 38).map (fun i => (i.zero, i.size, i.bytes)) = some (some (.agg z38), 4, 48) := by kernel_rfl
  have i55 : (Yba.prog.info? 55).map (fun i => (i.zero, i.size, i.bytes)) = some (some (.agg z55), 9, 120) := by kernel_rfl
  have i49 : (Yba.prog.info? 49).map (fun i => (i.zero, i.size, i.bytes)) = some (some (.agg #[.int .i64 0, .int .i64 0]), 2, 16) := by kernel_rfl
  have i21 : (Yba.prog.info? 21).map (fun i => (i.zero, i.size, i.bytes)) = some (some (.int .i32 0), 1, 4) := by kernel_rfl
  have m39 := make_of Yba.underlying39 i42 (by omega) n hn w
  have m40 := make_of Yba.underlying40 i38 (by omega) n hn w
  have m41 := make_of Yba.underlying41 i55 (by omega) n hn w
  have m43 := make_of Yba.underlying43 i49 (by omega) n hn w
  have m24 := make_of Yba.underlying24 i21 (by omega) n hn w
  rcases this with rfl | rfl | rfl | rfl | rfl | rfl | rfl | rfl | rfl | rfl
  · exact m39
  · exact m39
  · exact m40
  · exact m40
  · exact m41
  · exact m39
  · exact m39
  · exact m43
  · exact m43
  · exact m24

def LJ (b : Nat → Bool) : Array Bool := #[true, true, true, true, true, true, b 0, true, b 1, true, b 2, true, b 3, true, b 4, true, b 5, true, b 6, true, b 7, true, b 8, true, b 9, false, false, false]
def AJ (n : Nat) (m : Int) (X : Nat → Value) : Act :=
  { tmps := #[.int .i64 n, .int .i64 m, undef, undef, .pointer none, undef, undef, .int .i64 n, .int .i64 n, .int .i64 ((n : Int) + 63), .int .i64 (((n : Int) + 63) / 64), .int .i64 m, .int .i64 n, X 0, .int .i64 n, X 1, .int .i64 n, X 2, .int .i64 n, X 3, .int .i64 n, X 4, .int .i64 n, X 5, .int .i64 n, X 6, .int .i64 n, X 7, .int .i64 n, X 8, .int .i64 n, X 9, undef, undef, undef, undef, undef, undef, undef, undef, undef, undef, undef, undef, undef, undef, undef, undef, undef, undef, undef, undef, undef, undef, undef, undef, undef, undef, undef, undef, undef, undef, undef, undef, undef, undef, undef, undef, undef, undef, undef, undef, undef, undef, undef, undef, undef, undef, undef, undef, undef, undef, undef, undef, undef, undef, undef, undef, undef, undef], defers := [] }

theorem ten {p : Nat → Prop} (h0 : p 0) (h1 : p 1) (h2 : p 2) (h3 : p 3) (h4 : p 4) (h5 : p 5) (h6 : p 6) (h7 : p 7) (h8 : p 8) (h9 : p 9) (j : Nat) (hj : j < 10) : p j := by
  have : j = 0 ∨ j = 1 ∨ j = 2 ∨ j = 3 ∨ j = 4 ∨ j = 5 ∨ j = 6 ∨ j = 7 ∨ j = 8 ∨ j = 9 := by omega
  rcases this with rfl | rfl | rfl | rfl | rfl | rfl | rfl | rfl | rfl | rfl <;> assumption
theorem AJ_put (n : Nat) (m : Int) (X : Nat → Value) (j : Nat) (hj : j < 10) (v : Value) : (AJ n m X).put (some (13 + 2 * j)) v = AJ n m (updV X j v) :=
  ten (p := fun j => (AJ n m X).put (some (13 + 2 * j)) v = AJ n m (updV X j v)) rfl rfl rfl rfl rfl rfl rfl rfl rfl rfl j hj
theorem AJ_eval (n : Nat) (m : Int) (X : Nat → Value) (j : Nat) (hj : j < 10) : (AJ n m X).eval (.tmp (12 + 2 * j)) = .int .i64 n :=
  ten (p := fun j => (AJ n m X).eval (.tmp (12 + 2 * j)) = .int .i64 n) rfl rfl rfl rfl rfl rfl rfl rfl rfl rfl j hj
theorem LJ_set (b : Nat → Bool) (j : Nat) (hj : j < 10) : (LJ b).setIfInBounds (6 + 2 * j) true = LJ (updB b j) :=
  ten (p := fun j => (LJ b).setIfInBounds (6 + 2 * j) true = LJ (updB b j)) rfl rfl rfl rfl rfl rfl rfl rfl rfl rfl j hj
theorem LJ_get (b : Nat → Bool) (j : Nat) (d : Bool) (hj : j < 10) : (LJ b).getD (6 + 2 * j) d = b j :=
  ten (p := fun j => (LJ b).getD (6 + 2 * j) d = b j) rfl rfl rfl rfl rfl rfl rfl rfl rfl rfl j hj
theorem LJ_all (b : Nat → Bool) (h : ∀ j, j < 10 → b j = true) : LJ b = LJ fun _ => true := by
  simp [LJ, h]
theorem LJ_old (b : Nat → Bool) (i : Nat) (d : Bool) (hi : i < 25) (h : ∀ j, j < 10 → i ≠ 6 + 2 * j) : (LJ b).getD i d = true := by
  have h0 := h 0 (by omega); have h1 := h 1 (by omega); have h2 := h 2 (by omega); have h3 := h 3 (by omega); have h4 := h 4 (by omega)
  have h5 := h 5 (by omega); have h6 := h 6 (by omega); have h7 := h 7 (by omega); have h8 := h 8 (by omega); have h9 := h 9 (by omega)
  have : i = 0 ∨ i = 1 ∨ i = 2 ∨ i = 3 ∨ i = 4 ∨ i = 5 ∨ i = 7 ∨ i = 9 ∨ i = 11 ∨ i = 13 ∨ i = 15 ∨ i = 17 ∨ i = 19 ∨ i = 21 ∨ i = 23 := by omega
  rcases this with rfl | rfl | rfl | rfl | rfl | rfl | rfl | rfl | rfl | rfl | rfl | rfl | rfl | rfl | rfl <;> rfl
theorem LJ_new (b : Nat → Bool) (i : Nat) (d : Bool) (hi : 25 ≤ i) (h : i < 28) : (LJ b).getD i d = false := by
  have : i = 25 ∨ i = 26 ∨ i = 27 := by omega
  rcases this with rfl | rfl | rfl <;> rfl

theorem wpAny_congr {P : Program} {md : Region.Mode} {ops : Array Oper} {Q : Exit → Act → World → Prop} {fuel : Nat} {L L' : Array Bool} {a a' : Act} {w : World} (ha : a = a') (hL : L = L') (h : wpAny P md ops Q fuel L' a' w) : wpAny P md ops Q fuel L a w := by
  subst ha hL; exact h

def rowS (B : Nat → Nat) (n j : Nat) : Value := .slice (some ⟨B j, 0, none⟩) n n
def bookA (n : Nat) (m : Int) (B : Nat → Nat) : Array Value :=
  #[.int .i64 n, .int .i64 (((n : Int) + 63) / 64), .int .i64 m, .int .i64 0, rowS B n 0, rowS B n 1, rowS B n 2, rowS B n 3, .int .i64 0, rowS B n 4, .slice none 0 0, .slice none 0 0, .slice none 0 0, .slice none 0 0, .slice none 0 0, .slice none 0 0, .slice none 0 0,
    rowS B n 5, rowS B n 6, .slice none 0 0, .slice none 0 0, .slice none 0 0, rowS B n 7, rowS B n 8, .slice none 0 0, .slice none 0 0, rowS B n 9]
def bookF (n : Nat) (m : Int) (B : Nat → Nat) (k : Nat) : Value := (bookA n m B).getD k undef

/-- The book behind i rounds of its making. -/
structure Book (n : Nat) (m : Int) (w0 w : World) (Bb : Nat) (B Bw cw : Nat → Nat) (base i : Nat) : Prop where
  lowb : w0.heap.size ≤ Bb ∧ Bb < base
  low : ∀ j, j < 10 → w0.heap.size ≤ B j ∧ B j < base ∧ B j ≠ Bb
  ne : ∀ i j, i < 10 → j < 10 → i ≠ j → B i ≠ B j
  size : base ≤ w.heap.size
  book : Row w Bb 27 46 (bookF n m B)
  holds : ∃ H, Row w (B 0) (n * 1) 42 H ∧ ∀ k, i ≤ k → k < n → H k = .slice none 0 0
  reach : ∃ H, Row w (B 2) (n * 4) 38 H ∧ (∀ k, i ≤ k → k < n → H (k * 4 + 3) = .slice none 0 0) ∧ ∀ k, k < i → H (k * 4) = .int .i64 0 ∧ H (k * 4 + 1) = .int .i64 (k / 64 : Nat) ∧ H (k * 4 + 2) = .int .i64 1 ∧ H (k * 4 + 3) = .slice (some ⟨Bw k, 0, none⟩) 1 (cw k)
  queries : ∃ H, Row w (B 4) (n * 9) 55 H ∧ ∀ k, i ≤ k → k < n → H (k * 9 + 2 + 3) = .slice none 0 0
  words : ∀ k, k < i → base ≤ Bw k ∧ 1 ≤ cw k ∧ cw k ≤ maxLen ∧ ∃ G, Row w (Bw k) (cw k) 35 G ∧ G 0 = .int .u64 (2 ^ (k % 64) : Nat)
  next : Row w (B 3) (n * 4) 38 (fun k => z38[k % 4]!)
  took : Row w (B 7) (n * 2) 49 (fun _ => .int .i64 0)
  stay : Stay w0.heap.size (fun _ => False) w0 w

theorem Book.start {n : Nat} {m : Int} {w0 w : World} {X : Nat → Value} {B : Nat → Nat} (h : Made w0 w n szJ elJ (fun j k => (zJ j)[k % (zJ j).size]!) (fun _ => true) X B) :
    Book n m w0 (w.alloc (.cells (bookA n m B) 46)) w.heap.size B (fun _ => 0) (fun _ => 0) (w.heap.size + 1) 0 := by
  refine ⟨⟨h.stay.size, by omega⟩, fun j hj => ?_, fun i j hi hj hne => h.ne i j hi hj hne rfl rfl, by simp, ?_, ⟨_, (h.row 0 (by omega) rfl).alloc _, fun k _ _ => ?_⟩, ⟨_, (h.row 2 (by omega) rfl).alloc _, fun k _ _ => ?_, fun k hk => absurd hk (by omega)⟩,
    ⟨_, (h.row 4 (by omega) rfl).alloc _, fun k _ _ => ?_⟩, fun k hk => absurd hk (by omega), (h.row 3 (by omega) rfl).alloc _, ?_, h.stay.alloc h.stay.size _⟩
  · have := (h.row j hj rfl).lt
    exact ⟨h.low j hj rfl, by omega, by omega⟩
  · exact Row.new w (bookA n m B) 46 (bookF n m B) (fun k hk => by simp [bookF, Array.getD, hk])
  · show (#[Value.slice none 0 0] : Array Value)[k % 1]! = _
    rw [Nat.mod_one]; rfl
  · show (z38)[(k * 4 + 3) % z38.size]! = _
    rw [show (k * 4 + 3) % z38.size = 3 from (show (k * 4 + 3) % 4 = 3 by omega)]; rfl
  · show (z55)[(k * 9 + 2 + 3) % z55.size]! = _
    rw [show (k * 9 + 2 + 3) % z55.size = 5 from (show (k * 9 + 2 + 3) % 9 = 5 by omega)]; rfl
  · have := (h.row 7 (by omega) rfl).alloc (.cells (bookA n m B) 46)
    have e : (fun k => (zJ 7)[k % (zJ 7).size]!) = fun _ : Nat => Value.int .i64 0 := by
      funext k
      show (#[Value.int .i64 0, .int .i64 0] : Array Value)[k % 2]! = _
      rcases (show k % 2 = 0 ∨ k % 2 = 1 by omega) with e | e <;> rw [e] <;> rfl
    rw [e] at this
    exact this

theorem bits_or_zero (v : Nat) : bits .or .u64 0 ((2 ^ (v % 64) : Nat) : Int) = ((2 ^ (v % 64) : Nat) : Int) := by
  have hp : (2 : Nat) ^ (v % 64) < 2 ^ 64 := Nat.pow_lt_pow_right (by decide) (by omega)
  generalize (2 : Nat) ^ (v % 64) = P at hp ⊢
  have := bits_or_u64_nat 0 P (by omega) (by omega)
  simpa using this

theorem Book.round {n : Nat} {m : Int} {w0 w w1 w2 w4 : World} {Bb : Nat} {B Bw cw : Nat → Nat} {base i : Nat} (h : Book n m w0 w Bb B Bw cw base i) (hi : i < n) {H0 H2 H4 : Nat → Value} {c2 c4 q3 q5 : Nat} {v1 : Value}
    (hz0 : ∀ k, i ≤ k → k < n → H0 k = .slice none 0 0) (R1 : Row w1 (B 0) (n * 1) 42 (upd H0 i v1)) (S1 : Stay w.heap.size (fun b => b = B 0) w w1) (Z1 : w1.heap.size = w.heap.size + 1)
    (hz2 : ∀ k, i ≤ k → k < n → H2 (k * 4 + 3) = .slice none 0 0) (hd2 : ∀ k, k < i → H2 (k * 4) = .int .i64 0 ∧ H2 (k * 4 + 1) = .int .i64 (k / 64 : Nat) ∧ H2 (k * 4 + 2) = .int .i64 1 ∧ H2 (k * 4 + 3) = .slice (some ⟨Bw k, 0, none⟩) 1 (cw k))
    (R2 : Row w2 (B 2) (n * 4) 38 (upd4 H2 (i * 4) 0 (i / 64) 1 (.slice (some ⟨w1.heap.size, 0, none⟩) 1 c2))) (N2 : Row w2 w1.heap.size c2 35 (fun _ => .int .u64 0)) (S2 : Stay w1.heap.size (fun b => b = B 2) w1 w2) (Z2 : w2.heap.size = w1.heap.size + 1) (hc2 : 1 ≤ c2) (hcm2 : c2 ≤ maxLen)
    (hz4 : ∀ k, i ≤ k → k < n → H4 (k * 9 + 2 + 3) = .slice none 0 0) (w3 : World) (e3 : w3 = (w2.setCell ⟨w1.heap.size, 0, none⟩ (.int .u64 (bits .or .u64 0 ((2 ^ (i % 64) : Nat) : Int)))).drewN q3)
    (R4 : Row w4 (B 4) (n * 9) 55 (upd4 H4 (i * 9 + 2) 0 (i / 64) 1 (.slice (some ⟨w3.heap.size, 0, none⟩) 1 c4))) (S4 : Stay w3.heap.size (fun b => b = B 4) w3 w4) (Z4 : w4.heap.size = w3.heap.size + 1)
    (w5 : World) (v5 : Value) (e5 : w5 = (w4.setCell ⟨w3.heap.size, 0, none⟩ v5).drewN q5) :
    Book n m w0 w5 Bb B (updN Bw i w1.heap.size) (updN cw i c2) base (i + 1) := by
  have z3 : w3.heap.size = w2.heap.size := by rw [e3]; show (w2.setCell _ _).heap.size = _; simp [World.setCell]
  have z5 : w5.heap.size = w4.heap.size := by rw [e5]; show (w4.setCell _ _).heap.size = _; simp [World.setCell]
  have s3 : Stay w1.heap.size (fun _ => False) w2 w3 := by rw [e3]; exact ((Stay.refl w1.heap.size _ w2).set _ (.inl (Nat.le_refl _))).drewN _
  have s5 : Stay w3.heap.size (fun _ => False) w4 w5 := by rw [e5]; exact ((Stay.refl w3.heap.size _ w4).set _ (.inl (Nat.le_refl _))).drewN _
  have hs := h.size
  have n02 := h.ne 0 2 (by omega) (by omega) (by omega)
  have n04 := h.ne 0 4 (by omega) (by omega) (by omega)
  have n24 := h.ne 2 4 (by omega) (by omega) (by omega)
  have l0 := (h.low 0 (by omega)).2.1
  have l2 := (h.low 2 (by omega)).2.1
  have l4 := (h.low 4 (by omega)).2.1
  have keep : ∀ b, b < w.heap.size → b ≠ B 0 → b ≠ B 2 → b ≠ B 4 → w5.heap[b]? = w.heap[b]? := fun b hb h0 h2 h4 => by
    rw [s5.block b (by omega) id, S4.block b (by omega) h4, s3.block b (by omega) id, S2.block b (by omega) h2, S1.block b hb h0]
  have r0 : Row w5 (B 0) (n * 1) 42 (upd H0 i v1) := by
    show w5.heap[B 0]? = _
    rw [s5.block _ (by omega) id, S4.block _ (by omega) n04, s3.block _ (by omega) id, S2.block _ (by omega) n02]
    exact R1
  have r2 : Row w5 (B 2) (n * 4) 38 (upd4 H2 (i * 4) 0 (i / 64) 1 (.slice (some ⟨w1.heap.size, 0, none⟩) 1 c2)) := by
    show w5.heap[B 2]? = _
    rw [s5.block _ (by omega) id, S4.block _ (by omega) n24, s3.block _ (by omega) id]
    exact R2
  have r4 : Row w5 (B 4) (n * 9) 55 (upd4 H4 (i * 9 + 2) 0 (i / 64) 1 (.slice (some ⟨w3.heap.size, 0, none⟩) 1 c4)) := by
    show w5.heap[B 4]? = _
    rw [s5.block _ (by omega) id]
    exact R4
  have hst : Stay w0.heap.size (fun _ => False) w0 w5 := by
    have hsz := h.stay.size
    refine ⟨by rw [s5.os, S4.os, s3.os, S2.os, S1.os]; exact h.stay.os, by rw [s5.tape, S4.tape, s3.tape, S2.tape, S1.tape]; exact h.stay.tape, by rw [s5.output, S4.output, s3.output, S2.output, S1.output]; exact h.stay.output, by omega, fun b hb _ => ?_⟩
    have k0 := (h.low 0 (by omega)).1
    have k2 := (h.low 2 (by omega)).1
    have k4 := (h.low 4 (by omega)).1
    rw [keep b (by omega) (by omega) (by omega) (by omega)]
    exact h.stay.block b hb id
  have kb := h.lowb.2
  refine ⟨h.lowb, h.low, h.ne, by omega, ?_, ⟨_, r0, fun k hk hk2 => ?_⟩, ⟨_, r2, fun k hk hk2 => ?_, fun k hk => ?_⟩, ⟨_, r4, fun k hk hk2 => ?_⟩, fun k hk => ?_, ?_, ?_, hst⟩
  · exact (keep Bb (by omega) (Ne.symm (h.low 0 (by omega)).2.2) (Ne.symm (h.low 2 (by omega)).2.2) (Ne.symm (h.low 4 (by omega)).2.2)).trans h.book
  · rw [upd_ne _ _ (by omega)]; exact hz0 k (by omega) hk2
  · unfold upd4
    rw [upd_ne _ _ (by omega), upd_ne _ _ (by omega), upd_ne _ _ (by omega), upd_ne _ _ (by omega)]; exact hz2 k (by omega) hk2
  · unfold upd4
    by_cases e : k = i
    · subst e
      refine ⟨?_, ?_, ?_, ?_⟩
      · rw [upd_ne _ _ (by omega), upd_ne _ _ (by omega), upd_ne _ _ (by omega), upd_same]; rfl
      · rw [upd_ne _ _ (by omega), upd_ne _ _ (by omega), upd_same]
      · rw [upd_ne _ _ (by omega), upd_same]; rfl
      · rw [upd_same]; simp [updN]
    · have := hd2 k (by omega)
      refine ⟨?_, ?_, ?_, ?_⟩
      · rw [upd_ne _ _ (by omega), upd_ne _ _ (by omega), upd_ne _ _ (by omega), upd_ne _ _ (by omega)]; exact this.1
      · rw [upd_ne _ _ (by omega), upd_ne _ _ (by omega), upd_ne _ _ (by omega), upd_ne _ _ (by omega)]; exact this.2.1
      · rw [upd_ne _ _ (by omega), upd_ne _ _ (by omega), upd_ne _ _ (by omega), upd_ne _ _ (by omega)]; exact this.2.2.1
      · rw [upd_ne _ _ (by omega), upd_ne _ _ (by omega), upd_ne _ _ (by omega), upd_ne _ _ (by omega)]; simp only [updN, if_neg e]; exact this.2.2.2
  · unfold upd4
    rw [upd_ne _ _ (by omega), upd_ne _ _ (by omega), upd_ne _ _ (by omega), upd_ne _ _ (by omega)]; exact hz4 k (by omega) hk2
  · by_cases e : k = i
    · subst e
      simp only [updN, if_pos]
      refine ⟨by omega, hc2, hcm2, upd (fun _ => .int .u64 0) 0 (.int .u64 (2 ^ (k % 64) : Nat)), ?_, by rw [upd_same]⟩
      show w5.heap[w1.heap.size]? = _
      rw [s5.block _ (by omega) id, S4.block _ (by omega) (by omega), e3]
      have := (N2.set (k := 0) (.int .u64 (bits .or .u64 0 ((2 ^ (k % 64) : Nat) : Int)))).drewN q3
      rw [bits_or_zero] at this ⊢
      exact this
    · obtain ⟨b1, b2, b3, G, b4, b5⟩ := h.words k (by omega)
      simp only [updN, if_neg e]
      exact ⟨b1, b2, b3, G, (keep _ b4.lt (by omega) (by omega) (by omega)).trans b4, b5⟩
  · exact (keep _ h.next.lt (h.ne 3 0 (by omega) (by omega) (by omega)) (h.ne 3 2 (by omega) (by omega) (by omega)) (h.ne 3 4 (by omega) (by omega) (by omega))).trans h.next
  · exact (keep _ h.took.lt (h.ne 7 0 (by omega) (by omega) (by omega)) (h.ne 7 2 (by omega) (by omega) (by omega)) (h.ne 7 4 (by omega) (by omega) (by omega))).trans h.took

end Go.Proofs.Ybulkeamg
