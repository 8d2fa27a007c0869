/- math/bits.OnesCount64: what it answers, with no Go in sight. -/
import Derived.WalkKit
namespace Go.Proofs.Ybulkeamg

/-- Two numbers, cut at bit k, met part by part. -/
theorem and_split (k a b c d : Nat) (ha : a < 2 ^ k) (hc : c < 2 ^ k) : (a + 2 ^ k * b) &&& (c + 2 ^ k * d) = (a &&& c) + 2 ^ k * (b &&& d) := by
  have hac : a &&& c < 2 ^ k := Nat.and_lt_two_pow _ hc
  apply Nat.eq_of_testBit_eq
  intro i
  rw [Nat.testBit_and, Nat.add_comm a, Nat.add_comm c, Nat.add_comm (a &&& c), Nat.testBit_two_pow_mul_add _ ha, Nat.testBit_two_pow_mul_add _ hc, Nat.testBit_two_pow_mul_add _ hac]
  split
  · rw [Nat.testBit_and]
  · rw [Nat.testBit_and]

/-- The masks, n bytes wide. -/
def rep (m : Nat) : Nat → Nat
  | 0 => 0
  | n + 1 => m + 256 * rep m n
/-- n bytes as one number. -/
def num : List Nat → Nat
  | [] => 0
  | c :: l => c + 256 * num l

def s1 (c : Nat) : Nat := (c / 2 &&& 85) + (c &&& 85)
def s2 (c : Nat) : Nat := (c / 4 &&& 51) + (c &&& 51)
def s3 (c : Nat) : Nat := (c / 16 + c) &&& 15
def pc (c : Nat) : Nat := s3 (s2 (s1 c))

theorem low7 : ∀ c < 256, ∀ h < 2, (c / 2 + 128 * h) &&& 85 = c / 2 &&& 85 := by decide +kernel
theorem low6 : ∀ c < 256, ∀ h < 4, (c / 4 + 64 * h) &&& 51 = c / 4 &&& 51 := by decide +kernel
theorem s1_lt : ∀ c < 256, s1 c < 256 := by decide +kernel
theorem s2_lt : ∀ c < 256, s2 (s1 c) ≤ 68 ∧ s2 (s1 c) % 16 ≤ 4 ∧ s2 (s1 c) / 16 ≤ 4 := by decide +kernel
theorem low4 : ∀ c ≤ 68, c % 16 ≤ 4 → ∀ h ≤ 4, (c / 16 + 16 * h + c) &&& 15 = s3 c ∧ c / 16 + 16 * h + c < 256 := by decide +kernel
theorem pc_le : ∀ c < 256, pc c ≤ 8 := by decide +kernel

theorem step1 : ∀ l : List Nat, (∀ c ∈ l, c < 256) → (num l / 2 &&& rep 85 l.length) + (num l &&& rep 85 l.length) = num (l.map s1)
  | [], _ => by simp [num, rep]
  | c :: l, h => by
    have hc := h c (by simp)
    have ih := step1 l (fun x hx => h x (by simp [hx]))
    have e1 : num (c :: l) / 2 = (c / 2 + 128 * (num l % 2)) + 2 ^ 8 * (num l / 2) := by simp only [num]; omega
    have e2 : num (c :: l) = c + 2 ^ 8 * num l := rfl
    have e3 : rep 85 (c :: l).length = 85 + 2 ^ 8 * rep 85 l.length := rfl
    rw [e1, e3, and_split 8 _ _ _ _ (by omega) (by omega), e2, and_split 8 _ _ _ _ (by omega) (by omega), low7 c hc _ (by omega)]
    simp only [List.map_cons, num, s1]
    omega
theorem step2 : ∀ l : List Nat, (∀ c ∈ l, c < 256) → (num l / 4 &&& rep 51 l.length) + (num l &&& rep 51 l.length) = num (l.map s2)
  | [], _ => by simp [num, rep]
  | c :: l, h => by
    have hc := h c (by simp)
    have ih := step2 l (fun x hx => h x (by simp [hx]))
    have e1 : num (c :: l) / 4 = (c / 4 + 64 * (num l % 4)) + 2 ^ 8 * (num l / 4) := by simp only [num]; omega
    have e2 : num (c :: l) = c + 2 ^ 8 * num l := rfl
    have e3 : rep 51 (c :: l).length = 51 + 2 ^ 8 * rep 51 l.length := rfl
    rw [e1, e3, and_split 8 _ _ _ _ (by omega) (by omega), e2, and_split 8 _ _ _ _ (by omega) (by omega), low6 c hc _ (by omega)]
    simp only [List.map_cons, num, s2]
    omega
theorem num_mod : ∀ l : List Nat, (∀ c ∈ l, c ≤ 68 ∧ c % 16 ≤ 4) → num l % 16 ≤ 4
  | [], _ => by simp [num]
  | c :: l, h => by
    have := h c (by simp)
    simp only [num]; omega
theorem step3 : ∀ l : List Nat, (∀ c ∈ l, c ≤ 68 ∧ c % 16 ≤ 4) → (num l / 16 + num l) &&& rep 15 l.length = num (l.map s3)
  | [], _ => by simp [num, rep]
  | c :: l, h => by
    have hc := h c (by simp)
    have hl : ∀ x ∈ l, x ≤ 68 ∧ x % 16 ≤ 4 := fun x hx => h x (by simp [hx])
    have ih := step3 l hl
    have hm := num_mod l hl
    obtain ⟨l1, l2⟩ := low4 c hc.1 hc.2 (num l % 16) hm
    have e1 : num (c :: l) / 16 + num (c :: l) = (c / 16 + 16 * (num l % 16) + c) + 2 ^ 8 * (num l / 16 + num l) := by simp only [num]; omega
    have e3 : rep 15 (c :: l).length = 15 + 2 ^ 8 * rep 15 l.length := rfl
    rw [e1, e3, and_split 8 _ _ _ _ l2 (by omega), l1, ih]
    rfl

/-- The eight bytes of a word. -/
def bytes8 (x : Nat) : List Nat := [x % 256, x / 256 % 256, x / 65536 % 256, x / 16777216 % 256, x / 4294967296 % 256, x / 1099511627776 % 256, x / 281474976710656 % 256, x / 72057594037927936 % 256]
theorem num_bytes8 (x : Nat) (h : x < 18446744073709551616) : num (bytes8 x) = x := by simp only [bytes8, num]; omega
theorem bytes8_lt (x : Nat) : ∀ c ∈ bytes8 x, c < 256 := by
  intro c hc
  simp only [bytes8, List.mem_cons, List.not_mem_nil, or_false] at hc
  omega

/-- How many bits a word has. -/
def pop (x : Nat) : Nat := ((bytes8 x).map pc).sum

theorem num_lt_pow : ∀ l : List Nat, (∀ c ∈ l, c < 256) → num l < 256 ^ l.length
  | [], _ => by simp [num]
  | c :: l, h => by
    have hc := h c (by simp)
    have ih := num_lt_pow l (fun x hx => h x (by simp [hx]))
    simp only [num, List.length_cons, Nat.pow_succ]
    omega
theorem num_lt (l : List Nat) (h : ∀ c ∈ l, c < 256) (hl : l.length = 8) : num l < 18446744073709551616 := by
  have := num_lt_pow l h
  rw [hl] at this
  exact this
theorem num_drop : ∀ (k : Nat) (l : List Nat), (∀ c ∈ l, c < 256) → num l / 256 ^ k = num (l.drop k)
  | 0, l, _ => by simp
  | k + 1, [], _ => by simp [num]
  | k + 1, c :: l, h => by
    have hc := h c (by simp)
    have ih := num_drop k l (fun x hx => h x (by simp [hx]))
    have e : num (c :: l) / 256 = num l := by simp only [num]; omega
    rw [Nat.pow_succ, Nat.mul_comm, ← Nat.div_div_eq_div_mul, e, ih]
    rfl

theorem half_lt : ∀ l : List Nat, (∀ c ∈ l, c ≤ 68) → 3 * num l < 256 ^ l.length
  | [], _ => by simp [num]
  | c :: l, h => by
    have hc := h c (by simp)
    have ih := half_lt l (fun x hx => h x (by simp [hx]))
    simp only [num, List.length_cons, Nat.pow_succ]
    omega

theorem sum_low (a b c d e f g h : Nat) (ha : a ≤ 8) (hb : b ≤ 8) (hc : c ≤ 8) (hd : d ≤ 8) (he : e ≤ 8) (hf : f ≤ 8) (hg : g ≤ 8) (hh : h ≤ 8) :
    ∀ x y z, x = num [a, b, c, d, e, f, g, h] + num [a, b, c, d, e, f, g, h] / 256 → y = x + x / 65536 → z = y + y / 4294967296 → z % 128 = a + b + c + d + e + f + g + h ∧ x < 18446744073709551616 ∧ y < 18446744073709551616 ∧ z < 9223372036854775808 := by
  intro x y z hx hy hz
  have e1 := num_drop 1 [a, b, c, d, e, f, g, h] (by simp; omega)
  rw [Nat.pow_one] at e1
  have hx' : x = num [a + b, b + c, c + d, d + e, e + f, f + g, g + h, h] := by
    rw [hx, e1]; simp only [List.drop, num]; omega
  have bx : ∀ q ∈ [a + b, b + c, c + d, d + e, e + f, f + g, g + h, h], q < 256 := by simp; omega
  have e2 := num_drop 2 _ bx
  rw [← hx', show (256 : Nat) ^ 2 = 65536 from rfl] at e2
  have hy' : y = num [a + b + c + d, b + c + d + e, c + d + e + f, d + e + f + g, e + f + g + h, f + g + h, g + h, h] := by
    rw [hy, e2, hx']; simp only [List.drop, num]; omega
  have by_ : ∀ q ∈ [a + b + c + d, b + c + d + e, c + d + e + f, d + e + f + g, e + f + g + h, f + g + h, g + h, h], q < 256 := by simp; omega
  have e3 := num_drop 4 _ by_
  rw [← hy', show (256 : Nat) ^ 4 = 4294967296 from rfl] at e3
  have hz' : z = num [a + b + c + d + e + f + g + h, b + c + d + e + f + g + h, c + d + e + f + g + h, d + e + f + g + h, e + f + g + h, f + g + h, g + h, h] := by
    rw [hz, e3, hy']; simp only [List.drop, num]; omega
  have bz : ∀ q ∈ [a + b + c + d + e + f + g + h, b + c + d + e + f + g + h, c + d + e + f + g + h, d + e + f + g + h, e + f + g + h, f + g + h, g + h, h], q ≤ 68 := by simp; omega
  refine ⟨?_, by rw [hx']; exact num_lt _ bx rfl, by rw [hy']; exact num_lt _ by_ rfl, by have := half_lt _ bz; rw [← hz'] at this; simp only [List.length_cons, List.length_nil] at this; omega⟩
  rw [hz']
  unfold num
  generalize num [b + c + d + e + f + g + h, c + d + e + f + g + h, d + e + f + g + h, e + f + g + h, f + g + h, g + h, h] = r
  omega

/-- The masks as Go writes them. -/
theorem rep85 : rep 85 8 = 6148914691236517205 := by decide +kernel
theorem rep51 : rep 51 8 = 3689348814741910323 := by decide +kernel
theorem rep15 : rep 15 8 = 1085102592571150095 := by decide +kernel

/-- The steps of OnesCount64, one by one. -/
theorem pop_steps (x : Nat) (h : x < 18446744073709551616) : ∃ x1 x2 x3 x4 x5 x6 : Nat,
    (x / 2 &&& 6148914691236517205) + (x &&& 6148914691236517205) = x1 ∧ x1 < 18446744073709551616 ∧ (x1 / 4 &&& 3689348814741910323) + (x1 &&& 3689348814741910323) = x2 ∧ x2 < 18446744073709551616 ∧
    (x2 / 16 + x2 < 18446744073709551616 ∧ (x2 / 16 + x2) &&& 1085102592571150095 = x3) ∧ x3 + x3 / 256 = x4 ∧ x4 < 18446744073709551616 ∧ x4 + x4 / 65536 = x5 ∧ x5 < 18446744073709551616 ∧ x5 + x5 / 4294967296 = x6 ∧ x6 < 9223372036854775808 ∧ x6 % 128 = pop x ∧ x3 < 18446744073709551616 := by
  have hb := bytes8_lt x
  have hx := num_bytes8 x h
  have q1 := step1 _ hb
  rw [hx, show (bytes8 x).length = 8 from rfl, rep85] at q1
  have hb1 : ∀ c ∈ (bytes8 x).map s1, c < 256 := by
    intro c hc
    obtain ⟨y, hy, rfl⟩ := List.mem_map.1 hc
    exact s1_lt y (hb y hy)
  have q2 := step2 _ hb1
  rw [List.length_map, show (bytes8 x).length = 8 from rfl, rep51, List.map_map] at q2
  have hb2 : ∀ c ∈ (bytes8 x).map (s2 ∘ s1), c ≤ 68 ∧ c % 16 ≤ 4 := by
    intro c hc
    obtain ⟨y, hy, rfl⟩ := List.mem_map.1 hc
    have := s2_lt y (hb y hy)
    exact ⟨this.1, this.2.1⟩
  have q3 := step3 _ hb2
  rw [List.length_map, show (bytes8 x).length = 8 from rfl, rep15, List.map_map] at q3
  have n1 := num_lt _ hb1 (by simp [bytes8])
  have n2 := num_lt ((bytes8 x).map (s2 ∘ s1)) (fun c hc => by have := hb2 c hc; omega) (by simp [bytes8])
  have n3 : num ((bytes8 x).map (s2 ∘ s1)) / 16 + num ((bytes8 x).map (s2 ∘ s1)) < 18446744073709551616 := by
    have hl : ((bytes8 x).map (s2 ∘ s1)).length = 8 := by simp [bytes8]
    have := half_lt _ (fun c hc => (hb2 c hc).1)
    rw [hl] at this
    have h8 : (256 : Nat) ^ 8 = 18446744073709551616 := rfl
    omega
  have p8 : ∀ c ∈ bytes8 x, pc c ≤ 8 := fun c hc => pc_le c (hb c hc)
  have hp : (bytes8 x).map (s3 ∘ s2 ∘ s1) = (bytes8 x).map pc := rfl
  rw [hp] at q3
  have pp := p8
  simp only [bytes8, List.mem_cons, List.not_mem_nil, or_false, forall_eq_or_imp, forall_eq] at pp
  obtain ⟨p0, p1, p2, p3, p4, p5, p6, p7⟩ := pp
  obtain ⟨r1, r2, r3, r4⟩ := sum_low _ _ _ _ _ _ _ _ p0 p1 p2 p3 p4 p5 p6 p7 _ _ _ rfl rfl rfl
  refine ⟨_, _, _, _, _, _, q1, n1, q2, n2, ⟨n3, q3⟩, rfl, r2, rfl, r3, rfl, r4, ?_, ?_⟩
  · refine r1.trans ?_
    simp only [pop, bytes8, List.map_cons, List.map_nil, List.sum_cons, List.sum_nil]
    omega
  · have := num_lt ((bytes8 x).map pc) (fun c hc => by obtain ⟨y, hy, rfl⟩ := List.mem_map.1 hc; have := p8 y hy; omega) (by simp [bytes8])
    exact this

end Go.Proofs.Ybulkeamg
