/- The plain side of the law: no walk. -/
import Derived.Test.YbulkealsSmall
namespace Go.Proofs.Ybulkeals
open Go.RowKit Go.MapKept Go.Sort

def tot (KL : Nat → Nat) : Nat → Nat
  | 0 => 0
  | t + 1 => tot KL t + KL t

theorem tot_mono (KL : Nat → Nat) {s t : Nat} (h : s ≤ t) : tot KL s ≤ tot KL t := by
  induction h with
  | refl => exact Nat.le_refl _
  | step _ ih => exact Nat.le_trans ih (Nat.le_add_right _ _)
theorem le_tot (KL : Nat → Nat) {s t : Nat} (h : s < t) : KL s ≤ tot KL t :=
  Nat.le_trans (Nat.le_add_left _ _) (tot_mono KL (show s + 1 ≤ t from h))
theorem tot_le (KL : Nat → Nat) (c : Nat) : ∀ t, (∀ s, s < t → KL s ≤ c) → tot KL t ≤ t * c
  | 0, _ => by simp [tot]
  | t + 1, h => by
    have := tot_le KL c t (fun s hs => h s (by omega))
    have := h t (by omega)
    simp only [tot, Nat.succ_mul]; omega

/-- The keys that step s sets, as numbers below 4: the first t. -/
def kl (KZ : Nat → Nat → Int) (s t : Nat) : List Nat := (List.range t).map fun k => (KZ s k % 4).toNat
theorem kl_length (KZ : Nat → Nat → Int) (s t : Nat) : (kl KZ s t).length = t := by simp [kl]
theorem kl_succ (KZ : Nat → Nat → Int) (s t : Nat) : kl KZ s (t + 1) = kl KZ s t ++ [(KZ s t % 4).toNat] := by simp [kl, List.range_succ]
theorem kl_lt (KZ : Nat → Nat → Int) (s t : Nat) : ∀ j ∈ kl KZ s t, j < 4 := by
  intro j hj
  simp only [kl, List.mem_map] at hj
  obtain ⟨k, _, rfl⟩ := hj
  omega

/-- What each row holds when t steps are over. -/
def Lof (ID : Nat → Int) (KL : Nat → Nat) (KZ : Nat → Nat → Int) : Nat → Nat → List Nat
  | 0 => fun _ => []
  | t + 1 => setL (Lof ID KL KZ t) (ID t % 4).toNat (kl KZ t (KL t))

theorem Lof_le (ID : Nat → Int) (KL : Nat → Nat) (KZ : Nat → Nat → Int) (c : Nat) : ∀ t a, (∀ s, s < t → KL s ≤ c) → (Lof ID KL KZ t a).length ≤ c
  | 0, _, _ => by simp [Lof]
  | t + 1, a, h => by
    simp only [Lof, setL]
    split
    · rw [kl_length]; exact h t (by omega)
    · exact Lof_le ID KL KZ c t a (fun s hs => h s (by omega))
theorem Lof_lt (ID : Nat → Int) (KL : Nat → Nat) (KZ : Nat → Nat → Int) : ∀ t a, ∀ j ∈ Lof ID KL KZ t a, j < 4
  | 0, _, _, h => by simp [Lof] at h
  | t + 1, a, j, h => by
    simp only [Lof, setL] at h
    split at h
    · exact kl_lt _ _ _ j h
    · exact Lof_lt ID KL KZ t a j h

/-- A row of four bools: which of the keys are on the list. -/
def rowA (l : List Nat) : Array Value := #[.bool (decide (0 ∈ l)), .bool (decide (1 ∈ l)), .bool (decide (2 ∈ l)), .bool (decide (3 ∈ l))]
/-- The matrix. -/
def matA (L : Nat → List Nat) : Array Value :=
  #[.bool (decide (0 ∈ L 0)), .bool (decide (1 ∈ L 0)), .bool (decide (2 ∈ L 0)), .bool (decide (3 ∈ L 0)), .bool (decide (0 ∈ L 1)), .bool (decide (1 ∈ L 1)), .bool (decide (2 ∈ L 1)), .bool (decide (3 ∈ L 1)),
    .bool (decide (0 ∈ L 2)), .bool (decide (1 ∈ L 2)), .bool (decide (2 ∈ L 2)), .bool (decide (3 ∈ L 2)), .bool (decide (0 ∈ L 3)), .bool (decide (1 ∈ L 3)), .bool (decide (2 ∈ L 3)), .bool (decide (3 ∈ L 3))]

theorem rowA_get (l : List Nat) {j : Nat} (hj : j < 4) : (rowA l)[j]? = some (.bool (decide (j ∈ l))) := by
  rcases lt4 hj with rfl | rfl | rfl | rfl <;> rfl
theorem rowA_put (l : List Nat) {j : Nat} (hj : j < 4) : (rowA l).setIfInBounds j (.bool true) = rowA (l ++ [j]) := by
  rcases lt4 hj with rfl | rfl | rfl | rfl <;> simp [rowA]
theorem matA_get (L : Nat → List Nat) {i j : Nat} (hi : i < 4) (hj : j < 4) : (matA L)[4 * i + j]? = some (.bool (decide (j ∈ L i))) := by
  rcases lt4 hi with rfl | rfl | rfl | rfl <;> rcases lt4 hj with rfl | rfl | rfl | rfl <;> rfl
theorem matA_put (L : Nat → List Nat) (l : List Nat) {i : Nat} (hi : i < 4) :
    ((((matA L).setIfInBounds (4 * i) (.bool (decide (0 ∈ l)))).setIfInBounds (4 * i + 1) (.bool (decide (1 ∈ l)))).setIfInBounds (4 * i + 2) (.bool (decide (2 ∈ l)))).setIfInBounds (4 * i + 3) (.bool (decide (3 ∈ l))) = matA (setL L i l) := by
  rcases lt4 hi with rfl | rfl | rfl | rfl <;> simp [matA, setL]

/-- Does row i hold the key s? -/
def holdsB (L : Nat → List Nat) (s : ByteArray) (i : Nat) : Bool := (List.range 4).any fun j => decide (j ∈ L i) && (kS j == s)
theorem holdsB_iff {L : Nat → List Nat} {s : ByteArray} {i : Nat} : holdsB L s i = true ↔ ∃ j, j < 4 ∧ j ∈ L i ∧ kS j = s := by
  simp only [holdsB, List.any_eq_true, List.mem_range, Bool.and_eq_true, decide_eq_true_eq, bytes_beq]
/-- The rows below t that hold the key s, in their order. -/
def wantL (L : Nat → List Nat) (s : ByteArray) (t : Nat) : List Nat := (List.range t).filter (holdsB L s)
theorem wantL_succ (L : Nat → List Nat) (s : ByteArray) (t : Nat) : wantL L s (t + 1) = wantL L s t ++ if holdsB L s t then [t] else [] := by
  simp only [wantL, List.range_succ, List.filter_append]
  congr 1
  simp [List.filter_cons]
theorem wantL_le (L : Nat → List Nat) (s : ByteArray) (t : Nat) : (wantL L s t).length ≤ t := by
  have := List.length_filter_le (holdsB L s) (List.range t)
  simpa [wantL] using this

theorem want_hit {L : Nat → List Nat} {s : ByteArray} {t u : Nat} (hu : u < 4) (hm : u ∈ L t) (hk : kS u = s) : wantL L s (t + 1) = wantL L s t ++ [t] := by
  rw [wantL_succ, holdsB_iff.2 ⟨u, hu, hm, hk⟩]; rfl
theorem want_miss {L : Nat → List Nat} {s : ByteArray} {t : Nat} (h : ∀ j, j < 4 → ¬ (j ∈ L t ∧ kS j = s)) : wantL L s (t + 1) = wantL L s t := by
  rw [wantL_succ]
  cases hb : holdsB L s t with
  | false => simp
  | true => obtain ⟨j, hj, h1, h2⟩ := holdsB_iff.1 hb; exact absurd ⟨h1, h2⟩ (h j hj)
theorem no_succ {L : Nat → List Nat} {s : ByteArray} {t u : Nat} (h : ∀ j, j < u → ¬ (j ∈ L t ∧ kS j = s)) (hu : ¬ (u ∈ L t ∧ kS u = s)) : ∀ j, j < u + 1 → ¬ (j ∈ L t ∧ kS j = s) := by
  intro j hj
  by_cases e : j = u
  · subst e; exact hu
  · exact h j (by omega)
theorem toList_inj {a b : ByteArray} (h : a.toList = b.toList) : a = b := by
  have e : ∀ x : ByteArray, x.toList = x.data.toList := fun x => by simpa using ByteArray.toList_eq x
  rw [e, e] at h
  cases a; cases b; simp at h; rw [h]

theorem holders_perm {L : Nat → List Nat} {s : ByteArray} {ts : List Nat} (h : Holders (hof L) s ts) : ts.Perm (wantL L s 4) := by
  refine (List.perm_ext_iff_of_nodup h.1 (List.nodup_range.filter _)).2 fun i => ?_
  rw [h.2 i, List.mem_filter, List.mem_range, holdsB_iff]
  simp only [hof, decide_eq_true_eq]
  constructor
  · rintro ⟨hi, j, hj, e, hm⟩; exact ⟨hi, j, hj, hm, e.symm⟩
  · rintro ⟨hi, j, hj, hm, e⟩; exact ⟨hi, j, hj, e.symm, hm⟩

theorem want_cases (L : Nat → List Nat) (s : ByteArray) : ∃ a b c d : Bool, wantL L s 4 = (if a then [0] else []) ++ (if b then [1] else []) ++ (if c then [2] else []) ++ (if d then [3] else []) := by
  refine ⟨holdsB L s 0, holdsB L s 1, holdsB L s 2, holdsB L s 3, ?_⟩
  rw [wantL_succ, wantL_succ, wantL_succ, wantL_succ]
  simp [wantL]

/-- The wanted rows' ids are sorted. -/
theorem want_sorted (L : Nat → List Nat) (s : ByteArray) : ((wantL L s 4).map fun i => (iS i).data.toList).Pairwise (fun x y => x ≤ y) := by
  obtain ⟨a, b, c, d, h⟩ := want_cases L s
  rw [h]
  cases a <;> cases b <;> cases c <;> cases d <;> simp [iS] <;> decide

/-- Any order of the holders, sorted, is the wanted list. -/
theorem sorted_holders {L : Nat → List Nat} {s : ByteArray} {ts : List Nat} (h : Holders (hof L) s ts) :
    (ts.map fun i => (iS i).data.toList).mergeSort (fun x y => decide (x ≤ y)) = (wantL L s 4).map fun i => (iS i).data.toList := by
  rw [show (fun x y : List UInt8 => decide (x ≤ y)) = leB from rfl, mergeSort_of_perm ((holders_perm h).map _)]
  refine List.mergeSort_of_pairwise ?_
  refine (want_sorted L s).imp fun hxy => by simpa using hxy
end Go.Proofs.Ybulkeals
