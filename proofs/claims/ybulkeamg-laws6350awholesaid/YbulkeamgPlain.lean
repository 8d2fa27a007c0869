/- S6350A: the plain law: sets of nodes, their words and their counts. -/
import Derived.Test.YbulkeamgAdd2
namespace Go.Proofs.Ybulkeamg
set_option linter.unusedSimpArgs false

/-- How many of the first k say yes. -/
def bsum (f : Nat → Bool) : Nat → Nat
  | 0 => 0
  | k + 1 => bsum f k + (f k).toNat
theorem bsum_congr {f g : Nat → Bool} : ∀ k, (∀ b, b < k → f b = g b) → bsum f k = bsum g k
  | 0, _ => rfl
  | k + 1, h => by rw [bsum, bsum, bsum_congr k (fun b hb => h b (by omega)), h k (by omega)]
theorem bsum_add (f : Nat → Bool) (a : Nat) : ∀ b, bsum f (a + b) = bsum f a + bsum (fun i => f (a + i)) b
  | 0 => rfl
  | b + 1 => by rw [← Nat.add_assoc, bsum, bsum, bsum_add f a b]; omega
theorem bsum_zero {f : Nat → Bool} : ∀ k, (∀ b, b < k → f b = false) → bsum f k = 0
  | 0, _ => rfl
  | k + 1, h => by rw [bsum, bsum_zero k (fun b hb => h b (by omega)), h k (by omega)]; rfl
theorem bsum_le (f : Nat → Bool) : ∀ k, bsum f k ≤ k
  | 0 => Nat.le_refl _
  | k + 1 => by
    have := bsum_le f k
    have h2 : (f k).toNat ≤ 1 := by cases f k <;> simp
    rw [bsum]; omega
theorem bsum_past {f : Nat → Bool} (a b : Nat) (h : ∀ v, f v = true → v < a) (hab : a ≤ b) : bsum f b = bsum f a := by
  obtain ⟨d, rfl⟩ : ∃ d, b = a + d := ⟨b - a, by omega⟩
  rw [bsum_add, bsum_zero d]
  · rfl
  · intro i _
    cases e : f (a + i) with
    | false => rfl
    | true => have := h _ e; omega

theorem pc_bits : ∀ c < 256, pc c = bsum c.testBit 8 := by decide +kernel
theorem pc_part (x j : Nat) : pc (x / 2 ^ j % 256) = bsum (fun b => x.testBit (j + b)) 8 := by
  rw [pc_bits _ (Nat.mod_lt _ (by decide))]
  apply bsum_congr
  intro b hb
  rw [show (256 : Nat) = 2 ^ 8 from rfl, Nat.testBit_mod_two_pow, Nat.testBit_div_two_pow]
  simp [hb, Nat.add_comm]
theorem pop_bits (x : Nat) : pop x = bsum x.testBit 64 := by
  have h := fun j => pc_part x j
  have h0 := h 0; have h1 := h 8; have h2 := h 16; have h3 := h 24; have h4 := h 32; have h5 := h 40; have h6 := h 48; have h7 := h 56
  simp only [Nat.reducePow, Nat.div_one, Nat.zero_add] at h0 h1 h2 h3 h4 h5 h6 h7
  have e : bsum x.testBit 64 = bsum (fun b => x.testBit b) 8 + bsum (fun b => x.testBit (8 + b)) 8 + bsum (fun b => x.testBit (16 + b)) 8 + bsum (fun b => x.testBit (24 + b)) 8 + bsum (fun b => x.testBit (32 + b)) 8 + bsum (fun b => x.testBit (40 + b)) 8 + bsum (fun b => x.testBit (48 + b)) 8 + bsum (fun b => x.testBit (56 + b)) 8 := by
    rw [← bsum_add _ 8 8, ← bsum_add _ 16 8, ← bsum_add _ 24 8, ← bsum_add _ 32 8, ← bsum_add _ 40 8, ← bsum_add _ 48 8, ← bsum_add _ 56 8]
  rw [e, ← h0, ← h1, ← h2, ← h3, ← h4, ← h5, ← h6, ← h7]
  simp only [pop, bytes8, List.map_cons, List.map_nil, List.sum_cons, List.sum_nil]
  omega

/-- Word i of a set of nodes. -/
def wordTo (S : Nat → Bool) (i : Nat) : Nat → Nat
  | 0 => 0
  | b + 1 => wordTo S i b ||| (if S (64 * i + b) then 2 ^ b else 0)
def wordOf (S : Nat → Bool) (i : Nat) : Nat := wordTo S i 64
theorem testBit_wordTo (S : Nat → Bool) (i c : Nat) : ∀ b, (wordTo S i b).testBit c = (decide (c < b) && S (64 * i + c))
  | 0 => by simp [wordTo]
  | b + 1 => by
    rw [wordTo, Nat.testBit_or, testBit_wordTo S i c b]
    by_cases e : c = b
    · subst e
      cases S (64 * i + c) <;> simp
    · have h1 : (if S (64 * i + b) = true then 2 ^ b else 0).testBit c = false := by
        split
        · rw [Nat.testBit_two_pow]; simp; omega
        · simp
      rw [h1, Bool.or_false]
      have : decide (c < b) = decide (c < b + 1) := by rw [decide_eq_decide]; omega
      rw [this]
theorem testBit_wordOf (S : Nat → Bool) (i c : Nat) : (wordOf S i).testBit c = (decide (c < 64) && S (64 * i + c)) := testBit_wordTo S i c 64
theorem wordTo_lt (S : Nat → Bool) (i : Nat) : ∀ b, wordTo S i b < 2 ^ b
  | 0 => by simp [wordTo]
  | b + 1 => by
    rw [wordTo]
    apply Nat.or_lt_two_pow
    · exact Nat.lt_trans (wordTo_lt S i b) (Nat.pow_lt_pow_right (by decide) (by omega))
    · split
      · exact Nat.pow_lt_pow_right (by decide) (by omega)
      · exact Nat.two_pow_pos _
theorem wordOf_lt (S : Nat → Bool) (i : Nat) : wordOf S i < 18446744073709551616 := wordTo_lt S i 64
theorem wordOf_insert (S : Nat → Bool) (q i : Nat) : wordOf (fun v => S v || v == q) i = if q / 64 = i then wordOf S i ||| 2 ^ (q % 64) else wordOf S i := by
  apply Nat.eq_of_testBit_eq
  intro c
  rw [testBit_wordOf]
  by_cases e : q / 64 = i
  · rw [if_pos e, Nat.testBit_or, testBit_wordOf, Nat.testBit_two_pow]
    by_cases hc : c < 64
    · have : (64 * i + c == q) = decide (q % 64 = c) := by
        by_cases h : q % 64 = c
        · simp [h]; omega
        · simp [h]; omega
      simp [hc, this]
    · have : ¬ q % 64 = c := by omega
      simp [hc, this]
  · rw [if_neg e, testBit_wordOf]
    by_cases hc : c < 64
    · have : (64 * i + c == q) = false := by simp; omega
      simp [hc, this]
    · simp [hc]
theorem wordOf_congr {S T : Nat → Bool} (i : Nat) (h : ∀ v, S v = T v) : wordOf S i = wordOf T i := by
  have : S = T := funext h
  rw [this]
theorem wordOf_empty (i : Nat) : wordOf (fun _ => false) i = 0 := by
  apply Nat.eq_of_testBit_eq; intro c; rw [testBit_wordOf]; simp
theorem wordOf_one (q i : Nat) : wordOf (fun v => v == q) i = if q / 64 = i then 2 ^ (q % 64) else 0 := by
  have := wordOf_insert (fun _ => false) q i
  simp only [Bool.false_or] at this
  rw [this, wordOf_empty]
  split <;> simp

theorem popSum_words (S : Nat → Bool) (lo : Nat) : ∀ W, popSum (fun d => wordOf S (lo + d)) W = bsum (fun v => S (64 * lo + v)) (64 * W)
  | 0 => rfl
  | W + 1 => by
    rw [popSum, popSum_words S lo W, show 64 * (W + 1) = 64 * W + 64 by omega, bsum_add, pop_bits]
    congr 1
    apply bsum_congr
    intro b hb
    rw [testBit_wordOf]
    simp only [hb, decide_true, Bool.true_and]
    congr 1
    omega
/-- The bits of the words are as many as the nodes. -/
theorem popSum_count (S : Nat → Bool) (lo W n : Nat) (hlo : ∀ v, S v = true → lo ≤ v / 64 ∧ v / 64 < lo + W) (hn : ∀ v, S v = true → v < n) : popSum (fun d => wordOf S (lo + d)) W = bsum S n := by
  rw [popSum_words]
  have h1 : bsum S (64 * lo + 64 * W) = bsum S (64 * lo) + bsum (fun v => S (64 * lo + v)) (64 * W) := bsum_add S (64 * lo) (64 * W)
  have h2 : bsum S (64 * lo) = 0 := bsum_zero _ (fun b hb => by
    cases e : S b with
    | false => rfl
    | true => have := hlo b e; omega)
  have h3 : bsum S (n + (64 * lo + 64 * W)) = bsum S n := bsum_past n _ hn (by omega)
  have h4 : bsum S (n + (64 * lo + 64 * W)) = bsum S (64 * lo + 64 * W) := bsum_past (64 * lo + 64 * W) _ (fun v hv => by have := hlo v hv; omega) (by omega)
  omega

/-- p and the first k senders. -/
def inn (p : Nat) (FQ : Nat → Nat) : Nat → Nat → Bool
  | 0, v => v == p
  | k + 1, v => inn p FQ k v || v == FQ k
def loK (p : Nat) (FQ : Nat → Nat) : Nat → Nat
  | 0 => p / 64
  | k + 1 => min (loK p FQ k) (FQ k / 64)
def hiK (p : Nat) (FQ : Nat → Nat) : Nat → Nat
  | 0 => p / 64
  | k + 1 => max (hiK p FQ k) (FQ k / 64)
def tkn (p : Nat) (FQ : Nat → Nat) : Nat → List Nat
  | 0 => []
  | k + 1 => if FQ k = p then tkn p FQ k else tkn p FQ k ++ [FQ k]
theorem lo_le (p : Nat) (FQ : Nat → Nat) : ∀ k, loK p FQ k ≤ p / 64 ∧ p / 64 ≤ hiK p FQ k
  | 0 => ⟨Nat.le_refl _, Nat.le_refl _⟩
  | k + 1 => by have := lo_le p FQ k; simp only [loK, hiK]; omega
theorem lo_skip {p : Nat} {FQ : Nat → Nat} {k : Nat} (h : FQ k = p) : loK p FQ (k + 1) = loK p FQ k ∧ hiK p FQ (k + 1) = hiK p FQ k ∧ tkn p FQ (k + 1) = tkn p FQ k := by
  have := lo_le p FQ k
  simp only [loK, hiK, tkn, h, if_pos]
  exact ⟨by omega, by omega, trivial⟩
theorem inn_skip {p : Nat} {FQ : Nat → Nat} {k : Nat} (h : FQ k = p) (v : Nat) : inn p FQ (k + 1) v = inn p FQ k v := by
  have hp : ∀ k, inn p FQ k p = true := by
    intro k
    induction k with
    | zero => simp [inn]
    | succ k ih => simp [inn, ih]
  rw [inn, h]
  by_cases e : v = p
  · subst e; simp [hp k]
  · have : (v == p) = false := by simpa using e
    rw [this, Bool.or_false]
theorem inn_p (p : Nat) (FQ : Nat → Nat) (k : Nat) : inn p FQ k p = true := by
  induction k with
  | zero => simp [inn]
  | succ k ih => simp [inn, ih]
theorem inn_word (p : Nat) (FQ : Nat → Nat) : ∀ k v, inn p FQ k v = true → loK p FQ k ≤ v / 64 ∧ v / 64 ≤ hiK p FQ k
  | 0, v, h => by
    have : v = p := by simpa [inn] using h
    subst this
    exact ⟨Nat.le_refl _, Nat.le_refl _⟩
  | k + 1, v, h => by
    simp only [inn, Bool.or_eq_true, beq_iff_eq] at h
    simp only [loK, hiK]
    rcases h with h | h
    · have := inn_word p FQ k v h; omega
    · subst h; omega
theorem inn_lt {n p : Nat} {FQ : Nat → Nat} (hp : p < n) : ∀ k v, (∀ j, j < k → FQ j < n) → inn p FQ k v = true → v < n
  | 0, v, _, h => by
    have : v = p := by simpa [inn] using h
    omega
  | k + 1, v, hq, h => by
    simp only [inn, Bool.or_eq_true, beq_iff_eq] at h
    rcases h with h | h
    · exact inn_lt hp k v (fun j hj => hq j (by omega)) h
    · rw [h]; exact hq k (by omega)
theorem hi_lt {n p : Nat} {FQ : Nat → Nat} (hp : p < n) (hn : n ≤ 200) : ∀ k, (∀ j, j < k → FQ j < n) → hiK p FQ k ≤ 3
  | 0, _ => by simp only [hiK]; omega
  | k + 1, h => by
    have := hi_lt hp hn k (fun j hj => h j (by omega))
    have := h k (by omega)
    simp only [hiK]; omega
theorem lo_mono (p : Nat) (FQ : Nat → Nat) (k : Nat) : ∀ d, loK p FQ (k + d) ≤ loK p FQ k ∧ hiK p FQ k ≤ hiK p FQ (k + d)
  | 0 => ⟨Nat.le_refl _, Nat.le_refl _⟩
  | d + 1 => by
    have := lo_mono p FQ k d
    rw [← Nat.add_assoc]
    simp only [loK, hiK]
    omega
theorem lo_at {p : Nat} {FQ : Nat → Nat} {j L : Nat} (h : j < L) : loK p FQ L ≤ FQ j / 64 ∧ FQ j / 64 ≤ hiK p FQ L := by
  have := lo_mono p FQ (j + 1) (L - (j + 1))
  rw [show j + 1 + (L - (j + 1)) = L by omega] at this
  simp only [loK, hiK] at this
  omega
theorem tkn_len (p : Nat) (FQ : Nat → Nat) : ∀ k, (tkn p FQ k).length ≤ k
  | 0 => Nat.le_refl _
  | k + 1 => by
    have := tkn_len p FQ k
    simp only [tkn]
    split
    · omega
    · rw [List.length_append]; simp; omega
/-- The pairs as cells. -/
def pairs (p : Nat) (l : List Nat) : List Value := l.flatMap fun q : Nat => [.int .i32 (q : Int), .int .i32 (p : Int)]
theorem pairs_snoc (p q : Nat) (l : List Nat) : pairs p (l ++ [q]) = pairs p l ++ [.int .i32 q, .int .i32 p] := by simp [pairs]
theorem pairs_len (p : Nat) : ∀ l, (pairs p l).length = l.length * 2
  | [] => rfl
  | q :: l => by simp only [pairs, List.flatMap_cons, List.length_append, List.length_cons, List.length_nil]; have := pairs_len p l; simp only [pairs] at this; omega
theorem pairs_at (p : Nat) : ∀ (l : List Nat) (j : Nat) (h : j < l.length), (pairs p l)[j * 2]? = some (.int .i32 l[j]) ∧ (pairs p l)[j * 2 + 1]? = some (.int .i32 p)
  | q :: l, 0, _ => by simp [pairs]
  | q :: l, j + 1, h => by
    have := pairs_at p l j (by simpa using h)
    simp only [pairs, List.flatMap_cons] at this ⊢
    rw [show (j + 1) * 2 = j * 2 + 1 + 1 by omega, show (j * 2 + 1 + 1 + 1) = (j * 2 + 1) + 1 + 1 by omega]
    simpa using this
end Go.Proofs.Ybulkeamg
