/- S6357B: a chain of buckets, as it lies. -/
import Derived.Test.YbulkeaqaBRow
namespace Go.Proofs.Ybulkeaqa
open Go.RowKit
set_option linter.unusedSimpArgs false

structure Ent where
  t : Nat
  k : Nat
  v : Nat
/-- What slot q of a chain with these entries holds. -/
def tg (es : List Ent) (q : Nat) : Nat := match es[q]? with | some e => e.t | none => 0
def ky (es : List Ent) (q : Nat) : Nat := match es[q]? with | some e => e.k | none => 0
def vl (es : List Ent) (q : Nat) : Nat := match es[q]? with | some e => e.v | none => 0
theorem tg_snoc (es : List Ent) (e : Ent) (q : Nat) : tg (es ++ [e]) q = if q = es.length then e.t else tg es q := by
  unfold tg
  by_cases h : q < es.length
  · rw [List.getElem?_append_left h, if_neg (by omega)]
  · by_cases h2 : q = es.length
    · subst h2; simp
    · rw [if_neg h2, List.getElem?_eq_none (by simp; omega), List.getElem?_eq_none (by omega)]
theorem ky_snoc (es : List Ent) (e : Ent) (q : Nat) : ky (es ++ [e]) q = if q = es.length then e.k else ky es q := by
  unfold ky
  by_cases h : q < es.length
  · rw [List.getElem?_append_left h, if_neg (by omega)]
  · by_cases h2 : q = es.length
    · subst h2; simp
    · rw [if_neg h2, List.getElem?_eq_none (by simp; omega), List.getElem?_eq_none (by omega)]
theorem vl_snoc (es : List Ent) (e : Ent) (q : Nat) : vl (es ++ [e]) q = if q = es.length then e.v else vl es q := by
  unfold vl
  by_cases h : q < es.length
  · rw [List.getElem?_append_left h, if_neg (by omega)]
  · by_cases h2 : q = es.length
    · subst h2; simp
    · rw [if_neg h2, List.getElem?_eq_none (by simp; omega), List.getElem?_eq_none (by omega)]
theorem tg_past {es : List Ent} {q : Nat} (h : es.length ≤ q) : tg es q = 0 ∧ ky es q = 0 ∧ vl es q = 0 := by
  unfold tg ky vl
  rw [List.getElem?_eq_none h]
  exact ⟨rfl, rfl, rfl⟩
/-- An entry that may lie in a bucket. -/
structure Ent.Ok (e : Ent) : Prop where
  t0 : 2 ≤ e.t
  t1 : e.t ≤ 255
  k1 : e.k < 18446744073709551616
  v1 : e.v ≤ 65536
theorem tg_in {es : List Ent} {q : Nat} (h : ∀ e ∈ es, e.Ok) (hq : q < es.length) : 2 ≤ tg es q ∧ tg es q ≤ 255 := by
  unfold tg
  rw [List.getElem?_eq_getElem hq]
  have := h _ (List.getElem_mem hq)
  exact ⟨this.t0, this.t1⟩

/-- How many buckets n entries fill. -/
def nbk (n : Nat) : Nat := if n = 0 then 1 else (n + 7) / 8
/-- A bucket's 25 cells: bucket t of a chain, 'nx' its overflow. -/
def bcell (es : List Ent) (nx : Value) (t k : Nat) : Value :=
  if k < 8 then .int .u8 (tg es (8 * t + k)) else if k < 16 then .int .u64 (ky es (8 * t + (k - 8))) else if k < 24 then .int .i64 (vl es (8 * t + (k - 16))) else nx
/-- The overflow of bucket t. -/
def nxt (ov : Nat → Nat) (n t : Nat) : Value := .pointer (if t + 1 < nbk n then some ⟨ov (t + 1), 0, none⟩ else none)

theorem bcell_t (es : List Ent) (nx : Value) (t : Nat) {s : Nat} (h : s < 8) : bcell es nx t s = .int .u8 (tg es (8 * t + s)) := by simp [bcell, h]
theorem bcell_k (es : List Ent) (nx : Value) (t : Nat) {s : Nat} (h : s < 8) : bcell es nx t (8 + s) = .int .u64 (ky es (8 * t + s)) := by
  unfold bcell; rw [if_neg (by omega), if_pos (by omega), Nat.add_sub_cancel_left]
theorem bcell_v (es : List Ent) (nx : Value) (t : Nat) {s : Nat} (h : s < 8) : bcell es nx t (16 + s) = .int .i64 (vl es (8 * t + s)) := by
  unfold bcell; rw [if_neg (by omega), if_neg (by omega), if_pos (by omega), Nat.add_sub_cancel_left]
theorem bcell_o (es : List Ent) (nx : Value) (t : Nat) : bcell es nx t 24 = nx := by simp [bcell]

/-- Where bucket t lies. -/
def blk (Bh : Nat) (ov : Nat → Nat) (t : Nat) : Nat := if t = 0 then Bh else ov t
def off (oh t : Nat) : Nat := if t = 0 then oh else 0

/-- A chain: its head in the row F of block Bh, at oh; its overflow buckets in blocks of their own. -/
structure Chain (w : World) (Bh oh : Nat) (F : Nat → Value) (ov : Nat → Nat) (es : List Ent) : Prop where
  head : ∀ k, k < 25 → F (oh + k) = bcell es (nxt ov es.length 0) 0 k
  ovs : ∀ t, 1 ≤ t → t < nbk es.length → Row w (ov t) 25 39 (bcell es (nxt ov es.length t) t)
  ne : ∀ t, 1 ≤ t → t < nbk es.length → ov t ≠ Bh
  inj : ∀ t u, 1 ≤ t → t < nbk es.length → 1 ≤ u → u < nbk es.length → ov t = ov u → t = u

theorem Chain.cell {w : World} {Bh N oh : Nat} {F : Nat → Value} {ov : Nat → Nat} {es : List Ent} (h : Chain w Bh oh F ov es) (hR : Row w Bh N 39 F) (hN : oh + 25 ≤ N) {t k : Nat} (ht : t < nbk es.length) (hk : k < 25) : w.cell? ⟨blk Bh ov t, off oh t + k, none⟩ = some (bcell es (nxt ov es.length t) t k) := by
  unfold blk off
  by_cases e : t = 0
  · subst e
    rw [if_pos rfl, if_pos rfl, hR.cell (by omega), h.head k hk]
  · rw [if_neg e, if_neg e, Nat.zero_add]
    exact (h.ovs t (by omega) ht).cell hk
theorem Chain.frozen {w : World} {Bh N oh : Nat} {F : Nat → Value} {ov : Nat → Nat} {es : List Ent} (h : Chain w Bh oh F ov es) (hR : Row w Bh N 39 F) {t k : Nat} (ht : t < nbk es.length) : w.frozen? ⟨blk Bh ov t, k, none⟩ = false := by
  unfold blk
  by_cases e : t = 0
  · subst e; rw [if_pos rfl]; exact hR.frozen
  · rw [if_neg e]; exact (h.ovs t (by omega) ht).frozen
theorem nbk_pos (n : Nat) : 0 < nbk n := by unfold nbk; split <;> omega
end Go.Proofs.Ybulkeaqa
