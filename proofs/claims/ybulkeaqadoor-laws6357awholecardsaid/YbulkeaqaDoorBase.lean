/- LawS6357AWhole: the zero values, the library's calls. -/
import Derived.Test.YbulkeaqaDoorRows
import Derived.WalkKit
import Derived.MapKept
import Derived.Deep.OwnRows
import Derived.Deep.Draws
import Derived.RegionTactic
import Derived.BigRegion
import Derived.Deep.QuietTactic
import Derived.BigQuiet
import Derived.Maps.AppendAt
import Derived.Lib.Builder
import Derived.Laws.StructEq
import Derived.Laws.BitsLemmas
import Derived.RangeFuncBox
namespace Go.Proofs.YbulkeaqaDoor
open Go.RowKit
set_option linter.unusedSimpArgs false

/-- A bucket's zero. -/
def zb : Array Value := #[.int .u8 0, .int .u8 0, .int .u8 0, .int .u8 0, .int .u8 0, .int .u8 0, .int .u8 0, .int .u8 0, .int .u8 0, .int .u8 0, .int .u8 0, .int .u8 0, .int .u8 0, .int .u8 0, .int .u8 0, .int .u8 0, .int .u8 0, .int .u8 0, .int .u8 0, .int .u8 0, .int .u8 0, .int .u8 0, .int .u8 0, .int .u8 0, .pointer none]

theorem info32 : (Ybad.prog.info? 32).map (fun i => (i.zero, i.size, i.bytes)) = some (some (.agg zb), 25, 32) := by kernel_rfl
theorem info28 : (Ybad.prog.info? 28).map (fun i => (i.zero, i.size, i.bytes)) = some (some (.pointer none), 1, 8) := by kernel_rfl

def isZ : Value → Bool
  | .int .u8 x => x == 0
  | _ => false
def isN : Option Value → Bool
  | some (.pointer none) => true
  | _ => false
/-- n zero buckets lie ahead. -/
def chk : Nat → List Value → Bool
  | 0, _ => true
  | n + 1, l => (l.take 24).all isZ && (isN l[24]? && chk n (l.drop 25))
def zcells : Option Value → Array Value
  | some (.agg c) => c
  | _ => #[]
/-- A piece's zero: 512 buckets'. -/
noncomputable def Z34 : Array Value := zcells ((Ybad.prog.info? 34).bind fun i => i.zero)
theorem chk34 : chk 512 Z34.toList = true := by kernel_rfl
theorem agg34 : ((Ybad.prog.info? 34).bind fun i => i.zero).map (fun z => match z with | .agg _ => true | _ => false) = some true := by kernel_rfl

theorem isZ_eq {v : Value} (h : isZ v = true) : v = .int .u8 0 := by
  unfold isZ at h
  split at h
  · simp at h; rw [h]
  · cases h
theorem isN_eq {v : Option Value} (h : isN v = true) : v = some (.pointer none) := by
  unfold isN at h
  split at h
  · rfl
  · cases h
theorem zb_get {o : Nat} (ho : o < 24) : zb[o]? = some (.int .u8 0) := by
  have : o = 0 ∨ o = 1 ∨ o = 2 ∨ o = 3 ∨ o = 4 ∨ o = 5 ∨ o = 6 ∨ o = 7 ∨ o = 8 ∨ o = 9 ∨ o = 10 ∨ o = 11 ∨ o = 12 ∨ o = 13 ∨ o = 14 ∨ o = 15 ∨ o = 16 ∨ o = 17 ∨ o = 18 ∨ o = 19 ∨ o = 20 ∨ o = 21 ∨ o = 22 ∨ o = 23 := by omega
  rcases this with rfl | rfl | rfl | rfl | rfl | rfl | rfl | rfl | rfl | rfl | rfl | rfl | rfl | rfl | rfl | rfl | rfl | rfl | rfl | rfl | rfl | rfl | rfl | rfl <;> rfl

theorem chk_get : ∀ n l, chk n l = true → ∀ j o, j < n → o < 25 → l[j * 25 + o]? = zb[o]?
  | 0, _, _, j, _, hj, _ => by omega
  | n + 1, l, h, j, o, hj, ho => by
    unfold chk at h
    simp only [Bool.and_eq_true] at h
    obtain ⟨h1, h2, h3⟩ := h
    have e24 := isN_eq h2
    cases j with
    | zero =>
      rw [Nat.zero_mul, Nat.zero_add]
      by_cases h24 : o = 24
      · subst h24; rw [e24]; rfl
      · have hl : 24 < l.length := (List.getElem?_eq_some_iff.1 e24).1
        have ho' : o < l.length := by omega
        rw [zb_get (by omega), List.getElem?_eq_getElem ho']
        have hm : l[o] ∈ l.take 24 := by
          rw [List.mem_take_iff_getElem]
          exact ⟨o, by omega, rfl⟩
        rw [isZ_eq (List.all_eq_true.1 h1 _ hm)]
    | succ j =>
      have := chk_get n (l.drop 25) h3 j o (by omega) ho
      rw [List.getElem?_drop] at this
      rw [← this]
      congr 1
      omega

theorem Z34_get {j o : Nat} (hj : j < 512) (ho : o < 25) : Z34[j * 25 + o]? = zb[o]? := by
  rw [← Array.getElem?_toList]
  exact chk_get 512 _ chk34 j o hj ho

@[go_sem] theorem alloc34 (w : World) : (Instr.alloc 34 true (.tuple #[])).run Ybad.prog w = .ok (.pointer (some ⟨w.heap.size, 0, none⟩)) (w.alloc (.cells Z34 34)) := by
  obtain ⟨z, hz, hc⟩ := Option.map_eq_some_iff.1 agg34
  obtain ⟨i, hi, hz2⟩ := Option.bind_eq_some_iff.1 hz
  cases z with
  | agg c =>
    have e : Z34 = c := by unfold Z34; rw [hz]; rfl
    subst e
    have hzv : (zeroValue 34).run Ybad.prog w = .ok (.agg Z34) w := by simp [zeroValue, typeInfo, hi, hz2]
    simp [Instr.alloc, hzv, newVar, newRow, Value.cells]
  | _ => simp at hc

theorem zb_made {n j o : Nat} (hj : j < n) (ho : o < 25) : (madeCells zb (n * 25))[j * 25 + o]? = zb[o]? := by
  have h1 : j * 25 + o < n * 25 := by omega
  have h2 : (j * 25 + o) % 25 = o := by omega
  have h3 : zb.size = 25 := rfl
  simp only [madeCells, Array.getElem?_map, h1, h3, Array.getElem?_range]
  simp [h1, h2]
  rw [getElem!_pos zb o (by rw [h3]; exact ho), Array.getElem?_eq_getElem (by rw [h3]; exact ho)]

theorem eq32 (w : World) : (Op.equalIn 10000 32 (.agg #[.int .u8 0, .int .u8 0, .int .u8 0, .int .u8 0, .int .u8 0, .int .u8 0, .int .u8 0, .int .u8 0, .int .u8 0, .int .u8 0, .int .u8 0, .int .u8 0, .int .u8 0, .int .u8 0, .int .u8 0, .int .u8 0, .int .u8 0, .int .u8 0, .int .u8 0, .int .u8 0, .int .u8 0, .int .u8 0, .int .u8 0, .int .u8 0, .pointer none]) (.agg #[.int .u8 0, .int .u8 0, .int .u8 0, .int .u8 0, .int .u8 0, .int .u8 0, .int .u8 0, .int .u8 0, .int .u8 0, .int .u8 0, .int .u8 0, .int .u8 0, .int .u8 0, .int .u8 0, .int .u8 0, .int .u8 0, .int .u8 0, .int .u8 0, .int .u8 0, .int .u8 0, .int .u8 0, .int .u8 0, .int .u8 0, .int .u8 0, .pointer none])).run Ybad.prog w = .ok true w := by
  kernel_rfl

theorem has32 : (Ybad.prog.info? 32).map (fun _ => ()) = some () := by kernel_rfl
theorem has34 : (Ybad.prog.info? 34).map (fun _ => ()) = some () := by kernel_rfl
@[go_sem] theorem neq30 (a : Addr) (w : World) : (binOp .neq 30 (.pointer (some a)) (.pointer (some a))).run Ybad.prog w = .ok (.bool false) w := by
  obtain ⟨i, hi, _⟩ := Option.map_eq_some_iff.mp has32
  exact Lib.run_neq_ptr_same w a Ybad.underlying30 hi
@[go_sem] theorem neq28 (a : Addr) (w : World) : (binOp .neq 28 (.pointer (some a)) (.pointer (some a))).run Ybad.prog w = .ok (.bool false) w := by
  obtain ⟨i, hi, _⟩ := Option.map_eq_some_iff.mp has34
  exact Lib.run_neq_ptr_same w a Ybad.underlying28 hi

theorem cell_of {w : World} {b o : Nat} {c : Array Value} {t : TypeId} {fz : Nat × Nat} {v : Value} (h : w.heap[b]? = some (.cells c t fz)) (hv : c[o]? = some v) : w.cell? ⟨b, o, none⟩ = some v := by
  simp [World.cell?, h, hv]
theorem frozen_of {w : World} {b o : Nat} {c : Array Value} {t : TypeId} (h : w.heap[b]? = some (.cells c t (0, 0))) : w.frozen? ⟨b, o, none⟩ = false := by
  simp [World.frozen?, h]
theorem set_cell_block {w : World} {b o : Nat} {c : Array Value} {t : TypeId} {fz : Nat × Nat} (v : Value) (h : w.heap[b]? = some (.cells c t fz)) : (w.setCell ⟨b, o, none⟩ v).heap[b]? = some (.cells (c.setIfInBounds o v) t fz) := by
  simp only [World.setCell, Array.getElem?_modify, if_pos, h]
  rfl
theorem set_cell_size (w : World) (a : Addr) (v : Value) : (w.setCell a v).heap.size = w.heap.size := by simp [World.setCell]

/-- The five entries of the library's table that are read. -/
structure Tab (w : World) : Prop where
  c10 : w.cell? ⟨1, 55, none⟩ = some (.int .u8 10)
  c11 : w.cell? ⟨1, 47, none⟩ = some (.int .u8 11)
  c12 : w.cell? ⟨1, 30, none⟩ = some (.int .u8 12)
  c13 : w.cell? ⟨1, 60, none⟩ = some (.int .u8 13)
  c14 : w.cell? ⟨1, 57, none⟩ = some (.int .u8 14)
end Go.Proofs.YbulkeaqaDoor
