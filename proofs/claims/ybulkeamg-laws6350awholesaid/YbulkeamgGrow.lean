/- slices.Grow at []uint64 and at nodeSet: the shelf's contract, laid at this dump; and what it gives at a nil slice. -/
import Derived.Shelf.Spec.SlicesGrow
import Derived.Test.YbulkeamgRows
import Derived.WalkKit
import Derived.MapKept
import Derived.Deep.Draws
namespace Go.Proofs.Ybulkeamg
open Go.Shelf Go.RowKit
set_option linter.unusedSimpArgs false

def growW_ren : Go.Shelf.Ren := ⟨fun | 4 => 17 | n => n, fun | 22 => 34 | 25 => 35 | n => n, fun n => n⟩
def growN_ren : Go.Shelf.Ren := ⟨fun | 4 => 20 | n => n, fun | 22 => 42 | 25 => 35 | n => n, fun n => n⟩

theorem growW : Lays8.n4 Yba.prog growW_ren := {
  mixed := by kernel_rfl
  f4 := ⟨Yba.f17.name, by kernel_rfl, Yba.func17.trans (congrArg some (by kernel_rfl))⟩
  t0 := by kernel_rfl
  a0 := Yba.isAgg0
  z0 := Yba.sizeOf0
  v0 := Yba.zeroValue0
  t3 := by kernel_rfl
  a3 := Yba.isAgg3
  z3 := Yba.sizeOf3
  v3 := Yba.zeroValue3
  t4 := by kernel_rfl
  a4 := Yba.isAgg4
  z4 := Yba.sizeOf4
  v4 := Yba.zeroValue4
  t9 := by kernel_rfl
  a9 := Yba.isAgg9
  z9 := Yba.sizeOf9
  v9 := Yba.zeroValue9
  t20 := by kernel_rfl
  a20 := Yba.isAgg20
  z20 := Yba.sizeOf20
  v20 := Yba.zeroValue20
  t22 := by kernel_rfl
  a22 := Yba.isAgg34
  z22 := Yba.sizeOf34
  v22 := Yba.zeroValue34 }
theorem growN : Lays8.n4 Yba.prog growN_ren := {
  mixed := by kernel_rfl
  f4 := ⟨Yba.f20.name, by kernel_rfl, Yba.func20.trans (congrArg some (by kernel_rfl))⟩
  t0 := by kernel_rfl
  a0 := Yba.isAgg0
  z0 := Yba.sizeOf0
  v0 := Yba.zeroValue0
  t3 := by kernel_rfl
  a3 := Yba.isAgg3
  z3 := Yba.sizeOf3
  v3 := Yba.zeroValue3
  t4 := by kernel_rfl
  a4 := Yba.isAgg4
  z4 := Yba.sizeOf4
  v4 := Yba.zeroValue4
  t9 := by kernel_rfl
  a9 := Yba.isAgg9
  z9 := Yba.sizeOf9
  v9 := Yba.zeroValue9
  t20 := by kernel_rfl
  a20 := Yba.isAgg20
  z20 := Yba.sizeOf20
  v20 := Yba.zeroValue20
  t22 := by kernel_rfl
  a22 := Yba.isAgg42
  z22 := Yba.sizeOf42
  v22 := Yba.zeroValue42 }

theorem info35 : (Yba.prog.info? 35).map (fun i => (i.zero, i.size, i.bytes)) = some (some (.int .u64 0), 1, 8) := by kernel_rfl

theorem zc_get (n k : Nat) (h : k < n) : (Builtin.zeroCells (Value.int .u64 0).cells n)[k]? = some (.int .u64 0) := by
  simp [Builtin.zeroCells, Value.cells, h, Nat.mod_one]
theorem zc_all (n m k : Nat) (h : k < n + m) : ((([] : List Value).toArray ++ Builtin.zeroCells (Value.int .u64 0).cells n) ++ Builtin.zeroCells (Value.int .u64 0).cells m)[k]? = some (.int .u64 0) := by
  have s1 : (Builtin.zeroCells (Value.int .u64 0).cells n).size = n := by simp [size_zeroCells, Value.cells]
  rw [Array.getElem?_append, Array.getElem?_append]
  simp only [List.size_toArray, List.length_nil, Array.size_append, s1, Nat.zero_add, Nat.not_lt_zero, if_false, Nat.sub_zero]
  split
  · exact zc_get n k (by assumption)
  · exact zc_get m _ (by omega)

/-- Grow at nil: a new row of zeros, room for n. -/
theorem grow_words (n : Nat) (w : World) (h0 : 0 < n) (hn : n ≤ 1000000) :
    Calls Yba.prog 17 #[.slice none 0 0, .int .i64 n] w fun e w' => ∃ c cs, e = .returned (.slice (some ⟨w.heap.size, 0, none⟩) 0 c) ∧ w' = w.drew.alloc (.cells cs 35) ∧ n ≤ c ∧ c ≤ maxLen ∧ cs.size = c ∧ ∀ k, k < c → cs[k]? = some (.int .u64 0) := by
  obtain ⟨i, hi, z0, z1, z2⟩ := info_parts info35
  refine (Any8.slices_Grow_grow growW i (.int .u64 0) hi z0 (by omega) none 0 0 n [] w (by omega) (by omega) (by rw [z2]; omega) (by omega) (by simp) (fun _ => rfl) (fun _ h => by cases h)).mono ?_
  have hge := grownCap_ge w (0 + n) 0 (growW_ren.t 25)
  have hle := grownCap_le_maxLen w (0 + n) 0 (growW_ren.t 25) (by unfold maxLen; omega)
  generalize grownCap w (0 + n) 0 (growW_ren.t 25) = C at hge hle ⊢
  rintro e w' ⟨rfl, rfl⟩
  refine ⟨C, _, rfl, rfl, by omega, hle, ?_, fun k hk => zc_all _ _ k (by omega)⟩
  simp [size_zeroCells, Value.cells]
  omega

theorem grow_set (n : Nat) (w : World) (h0 : 0 < n) (hn : n ≤ 1000000) :
    Calls Yba.prog 20 #[.slice none 0 0, .int .i64 n] w fun e w' => ∃ c cs, e = .returned (.slice (some ⟨w.heap.size, 0, none⟩) 0 c) ∧ w' = w.drew.alloc (.cells cs 35) ∧ n ≤ c ∧ c ≤ maxLen ∧ cs.size = c ∧ ∀ k, k < c → cs[k]? = some (.int .u64 0) := by
  obtain ⟨i, hi, z0, z1, z2⟩ := info_parts info35
  refine (Any8.slices_Grow_grow growN i (.int .u64 0) hi z0 (by omega) none 0 0 n [] w (by omega) (by omega) (by rw [z2]; omega) (by omega) (by simp) (fun _ => rfl) (fun _ h => by cases h)).mono ?_
  have hge := grownCap_ge w (0 + n) 0 (growN_ren.t 25)
  have hle := grownCap_le_maxLen w (0 + n) 0 (growN_ren.t 25) (by unfold maxLen; omega)
  generalize grownCap w (0 + n) 0 (growN_ren.t 25) = C at hge hle ⊢
  rintro e w' ⟨rfl, rfl⟩
  refine ⟨C, _, rfl, rfl, by omega, hle, ?_, fun k hk => zc_all _ _ k (by omega)⟩
  simp [size_zeroCells, Value.cells]
  omega
end Go.Proofs.Ybulkeamg
