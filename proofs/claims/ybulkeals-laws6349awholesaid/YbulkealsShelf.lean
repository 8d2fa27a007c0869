/- The shelf's contracts of slices.Sort, Equal, Clone at []string, laid at this dump by the kit's own tools (lay-shelf.mjs, lay-plain.mjs); those that the proof does not use are struck. -/
import Derived.Shelf.Sort.Plain
import Derived.Shelf.Slices.Equal
import Derived.Ground.Names2Prog
import Derived.Shelf.Slices.Clone
import Derived.Shelf.Slices.In.SortNone
import Derived.Shelf.Slices.Empties2
import Derived.Test.YbulkealsProg
namespace Go.Proofs
def Yba.lays190_ren : Go.Shelf.Ren := ⟨fun | 190 => 11 | 125 => 17 | 258 => 16 | 128 => 28 | 129 => 29 | 302 => 19 | 303 => 20 | 304 => 21 | 305 => 22 | 306 => 23 | 307 => 24 | 308 => 25 | 309 => 26 | 310 => 27 | 333 => 30 | 329 => 31 | 330 => 32 | 334 => 33 | 335 => 34 | 336 => 35 | 344 => 36 | n => n, fun | 31 => 23 | 9 => 9 | 3 => 3 | 46 => 53 | 0 => 0 | 51 => 66 | 53 => 68 | 4 => 4 | 183 => 58 | 182 => 57 | 131 => 63 | 5 => 5 | 218 => 69 | 222 => 73 | 228 => 75 | 229 => 76 | n => n, fun | n => n⟩
theorem Yba.lays190 : Go.Proofs.Lays.n190 Yba.prog Yba.lays190_ren := {
  mixed := by kernel_rfl
  f125 := Yba.func17.trans (congrArg some (by kernel_rfl))
  f128 := Yba.func28.trans (congrArg some (by kernel_rfl))
  f129 := Yba.func29.trans (congrArg some (by kernel_rfl))
  f190 := Yba.func11.trans (congrArg some (by kernel_rfl))
  f258 := Yba.func16.trans (congrArg some (by kernel_rfl))
  f302 := Yba.func19.trans (congrArg some (by kernel_rfl))
  f303 := Yba.func20.trans (congrArg some (by kernel_rfl))
  f304 := Yba.func21.trans (congrArg some (by kernel_rfl))
  f305 := Yba.func22.trans (congrArg some (by kernel_rfl))
  f306 := Yba.func23.trans (congrArg some (by kernel_rfl))
  f307 := Yba.func24.trans (congrArg some (by kernel_rfl))
  f308 := Yba.func25.trans (congrArg some (by kernel_rfl))
  f309 := Yba.func26.trans (congrArg some (by kernel_rfl))
  f310 := Yba.func27.trans (congrArg some (by kernel_rfl))
  f329 := Yba.func31.trans (congrArg some (by kernel_rfl))
  f330 := Yba.func32.trans (congrArg some (by kernel_rfl))
  f333 := Yba.func30.trans (congrArg some (by kernel_rfl))
  f334 := Yba.func33.trans (congrArg some (by kernel_rfl))
  f335 := Yba.func34.trans (congrArg some (by kernel_rfl))
  f336 := Yba.func35.trans (congrArg some (by kernel_rfl))
  f344 := Yba.func36.trans (congrArg some (by kernel_rfl))
  t0 := Yba.underlying0
  a0 := Yba.isAgg0
  z0 := Yba.sizeOf0
  v0 := Yba.zeroValue0
  t3 := Yba.underlying3
  a3 := Yba.isAgg3
  z3 := Yba.sizeOf3
  v3 := Yba.zeroValue3
  t4 := Yba.underlying4
  a4 := Yba.isAgg4
  z4 := Yba.sizeOf4
  v4 := Yba.zeroValue4
  t5 := Yba.underlying5
  a5 := Yba.isAgg5
  z5 := Yba.sizeOf5
  v5 := Yba.zeroValue5
  t9 := Yba.underlying9
  a9 := Yba.isAgg9
  z9 := Yba.sizeOf9
  v9 := Yba.zeroValue9
  t31 := Yba.underlying23
  a31 := Yba.isAgg23
  z31 := Yba.sizeOf23
  v31 := Yba.zeroValue23
  t46 := Yba.underlying53
  a46 := Yba.isAgg53
  z46 := Yba.sizeOf53
  v46 := Yba.zeroValue53
  t51 := Yba.underlying66
  a51 := Yba.isAgg66
  z51 := Yba.sizeOf66
  v51 := Yba.zeroValue66
  t53 := Yba.underlying68
  a53 := Yba.isAgg68
  z53 := Yba.sizeOf68
  v53 := Yba.zeroValue68
  t131 := Yba.underlying63
  a131 := Yba.isAgg63
  z131 := Yba.sizeOf63
  v131 := Yba.zeroValue63
  t182 := Yba.underlying57
  a182 := Yba.isAgg57
  z182 := Yba.sizeOf57
  v182 := Yba.zeroValue57
  t183 := Yba.underlying58
  a183 := Yba.isAgg58
  z183 := Yba.sizeOf58
  v183 := Yba.zeroValue58
  t218 := Yba.underlying69
  a218 := Yba.isAgg69
  z218 := Yba.sizeOf69
  v218 := Yba.zeroValue69
  t222 := Yba.underlying73
  a222 := Yba.isAgg73
  z222 := Yba.sizeOf73
  v222 := Yba.zeroValue73
  t228 := Yba.underlying75
  a228 := Yba.isAgg75
  z228 := Yba.sizeOf75
  v228 := Yba.zeroValue75
  t229 := Yba.underlying76
  a229 := Yba.isAgg76
  z229 := Yba.sizeOf76
  v229 := Yba.zeroValue76 }
open Go.Sort Go.RowKit in
theorem Yba.slices_Sort_string (blk off cap : Nat) (ss : List (List UInt8)) (w : World) (hH : Holds encStr w blk off ss.toArray) (hblk : blk < w.heap.size) (hsz : ss.length < 4611686018427387904) :
    Calls Yba.prog 11 #[.slice (some ⟨blk, off, none⟩) ss.length cap] w fun e w' =>
      e = .returned (.tuple #[]) ∧ ∃ n os, w' = grow (putRow encStr (Sort.ahead w n) blk off (ss.mergeSort fun x y => decide (x ≤ y)).toArray) os := Any.slices_Sort_string Yba.lays190 blk off cap ss w hH hblk hsz
def Yba.lays193_ren : Go.Shelf.Ren := ⟨fun | 193 => 10 | n => n, fun | 31 => 23 | 9 => 9 | 4 => 4 | 3 => 3 | 0 => 0 | n => n, fun | n => n⟩
theorem Yba.lays193 : Go.Proofs.Lays.n193 Yba.prog Yba.lays193_ren := {
  mixed := by kernel_rfl
  f193 := Yba.func10.trans (congrArg some (by kernel_rfl))
  t0 := Yba.underlying0
  a0 := Yba.isAgg0
  z0 := Yba.sizeOf0
  v0 := Yba.zeroValue0
  t3 := Yba.underlying3
  a3 := Yba.isAgg3
  z3 := Yba.sizeOf3
  v3 := Yba.zeroValue3
  t4 := Yba.underlying4
  a4 := Yba.isAgg4
  z4 := Yba.sizeOf4
  v4 := Yba.zeroValue4
  t9 := Yba.underlying9
  a9 := Yba.isAgg9
  z9 := Yba.sizeOf9
  v9 := Yba.zeroValue9
  t31 := Yba.underlying23
  a31 := Yba.isAgg23
  z31 := Yba.sizeOf23
  v31 := Yba.zeroValue23 }
open Go.RowKit Go.Lib in
/-- slices.Equal at []string: "Equal reports whether two slices are equal: the same length and all elements equal. If the lengths are different, Equal returns false. Otherwise, the elements are compared in increasing index order, and the comparison stops at the first unequal pair. Empty and nil slices are considered equal.": IT RETURNS WHETHER THE TWO LISTS OF ELEMENTS ARE ONE; the world is as it was but for the count of draws (the test 's1[i] != s2[i]' has two reads, whose order the model draws, once a round). 'xs', 'ys': what the cells behind the two addresses hold (the spare capacity too, if you have it); 'xs.take n', 'ys.take m': the elements. THE TWO SLICES MAY OVERLAP. (LAID: no walk: one application.) -/
theorem Yba.slices_Equal_string (b1 o1 n c b2 o2 m d : Nat) (xs ys : List ByteArray) (w : World) (hx : n ≤ xs.length) (hy : m ≤ ys.length) (hbig : n ≤ 9223372036854775807) (hbig2 : m ≤ 9223372036854775807) (hc1 : ∀ j, j < xs.length → w.cell? ⟨b1, o1 + j, none⟩ = some (.string (xs.getD j ByteArray.empty))) (hc2 : ∀ j, j < ys.length → w.cell? ⟨b2, o2 + j, none⟩ = some (.string (ys.getD j ByteArray.empty))) :
    Calls Yba.prog 10 #[.slice (some ⟨b1, o1, none⟩) n c, .slice (some ⟨b2, o2, none⟩) m d] w fun e w' => e = .returned (.bool (decide (xs.take n = ys.take m))) ∧ ∃ q, w' = w.drewN q := Any.slices_Equal_string Yba.lays193 b1 o1 n c b2 o2 m d xs ys w hx hy hbig hbig2 hc1 hc2
open Go.RowKit Go.Lib in
/-- The same where the first is of length 0 (a nil one too): no cell is asked for. (LAID: no walk: one application.) -/
theorem Yba.slices_Equal_string_empty (a1 a2 : Option Addr) (c m d : Nat) (w : World) (hbig2 : m ≤ 9223372036854775807) :
    Calls Yba.prog 10 #[.slice a1 0 c, .slice a2 m d] w fun e w' => e = .returned (.bool (decide (m = 0))) ∧ w' = w := Any.slices_Equal_string_empty Yba.lays193 a1 a2 c m d w hbig2
def Yba.laysNm216_ren : Go.Shelf.Ren := ⟨fun | 16 => 8 | n => n, fun | 24 => 23 | 9 => 9 | 4 => 4 | n => n, fun | n => n⟩
theorem Yba.laysNm216 : Go.Proofs.Lays2.n16 Yba.prog Yba.laysNm216_ren := {
  mixed := by kernel_rfl
  f16 := Yba.func8.trans (congrArg some (by kernel_rfl))
  t4 := Yba.underlying4
  a4 := Yba.isAgg4
  z4 := Yba.sizeOf4
  v4 := Yba.zeroValue4
  t9 := Yba.underlying9
  a9 := Yba.isAgg9
  z9 := Yba.sizeOf9
  v9 := Yba.zeroValue9
  t24 := Yba.underlying23
  a24 := Yba.isAgg23
  z24 := Yba.sizeOf23
  v24 := Yba.zeroValue23
  i9 := by kernel_rfl }
open Go.RowKit Go.Lib in
/-- slices.Clone at []string: "Clone returns a copy of the slice. The elements are copied using assignment, so this is a shallow clone. The result may have additional unused capacity. The result preserves the nilness of s.": OF A SLICE THAT IS NOT nil IT RETURNS A SLICE THAT IS NOT nil, OF THE SAME ELEMENTS, IN MEMORY OF THE CALL's OWN: in the how-to's words (6f): 'w'.ownsRow B e 1 v' n cells': v' begins at the head of a row among the blocks from B on (B: the heap's size at the call), not frozen, whose first cells are the elements · 'Below B w w'': below B all is as it was. The capacity is whatever the run-time gives. 'zs': what the cells behind the slice's address hold; 'zs.take n': its elements. (LAID: no walk: one application.) -/
theorem Yba.slices_Clone_string (b off n c : Nat) (zs : List ByteArray) (w : World) (hz : n ≤ zs.length) (hbig : n * 16 ≤ 140737488355328) (hc : ∀ j, j < zs.length → w.cell? ⟨b, off + j, none⟩ = some (.string (zs.getD j ByteArray.empty))) :
    Calls Yba.prog 8 #[.slice (some ⟨b, off, none⟩) n c] w fun e w' => ∃ v', e = .returned v' ∧ w'.ownsRow w.heap.size 9 1 v' n ((zs.take n).map (Value.string)) ∧ v' ≠ .slice none 0 0 ∧ Below w.heap.size w w' := Any.slices_Clone_string Yba.laysNm216 b off n c zs w hz hbig hc
open Go.RowKit Go.Lib in
/-- The same at nil: nil comes back; the world is as it was. (LAID: no walk: one application.) -/
theorem Yba.slices_Clone_string_nil (n c : Nat) (w : World) :
    Calls Yba.prog 8 #[.slice none n c] w fun e w' => e = .returned (.slice none 0 0) ∧ w' = w := Any.slices_Clone_string_nil Yba.laysNm216 n c w
open Go.RowKit Go.Lib in
/-- The same at a slice of length 0 that is not nil, WHATEVER ITS ADDRESS (no cell is asked for): a slice that is not nil and owns nothing comes back. (LAID: no walk: one application.) -/
theorem Yba.slices_Clone_string_zero (a : Addr) (c : Nat) (w : World) :
    Calls Yba.prog 8 #[.slice (some a) 0 c] w fun e w' => ∃ v', e = .returned v' ∧ w'.ownsRow w.heap.size 9 1 v' 0 [] ∧ v' ≠ .slice none 0 0 ∧ Below w.heap.size w w' := Any.slices_Clone_string_zero Yba.laysNm216 a c w
open Go.RowKit Go.Sort in
/-- .. and plain. (LAID: no walk: one application.) -/
theorem Yba.slices_Sort_string_none (p : Option Addr) (cap : Nat) (w : World) :
    Calls Yba.prog 11 #[.slice p 0 cap] w fun e w' => e = .returned (.tuple #[]) ∧ w' = w := Any.slices_Sort_string_none Yba.lays190 p cap w
open Go.RowKit Go.Lib in
theorem Yba.slices_Equal_string_lens (a1 a2 : Option Addr) (n c m d : Nat) (w : World) (hnm : n ≠ m) :
    Calls Yba.prog 10 #[.slice a1 n c, .slice a2 m d] w fun e w' => e = .returned (.bool false) ∧ w' = w := Any.slices_Equal_string_lens Yba.lays193 a1 a2 n c m d w hnm
end Go.Proofs
