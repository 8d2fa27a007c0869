/- The proof of 'Rows.LawS6350AWholeSaid': the row's frame is the given shell's; the walk: YbulkeamgMain. -/
import Derived.Test.YbulkeamgRows
import Derived.Test.YbulkeamgMain
import Derived.WalkKit
import Derived.ProofKit
import Derived.OpenShut
import Derived.ShutString
import Derived.ChangeOld
import Derived.Below
namespace Go.Proofs.Ybulkeamg.lawS6350AWhole
open Go.ChangeShapes Go.WideShapes Go.ChangeAt Go.RowKit
open Go.ChangeMaps (open_string shut_string)
set_option linter.unusedVariables false

theorem own : ownKnob Yba.prog.godebug = none := by kernel_rfl
theorem laidOut : laidOutB Yba.prog = true := by kernel_rfl

/-- WHAT THE WALK IS TOLD OF A SLICE OF INTEGERS THAT CAME IN: it is nil; or it leads to a row of 'cap' cells, the numbers 'zs' (the first 'len' are its elements, the rest its spare room), each fitting its kind. -/
def IsRow (k : IntKind) (w : World) (a : Option Addr) (len cap : Nat) (zs : List Int) : Prop :=
  (a = none ∧ len = 0 ∧ cap = 0 ∧ zs = []) ∨
  ∃ x, a = some x ∧ len ≤ cap ∧ cap ≤ maxLen ∧ zs.length = cap ∧ (∀ i, i < zs.length → w.cell? (x.add i) = some (.int k (zs.getD i 0))) ∧ ∀ n ∈ zs, (Lit.int k n).wf = true

set_option maxRecDepth 100000 in
theorem law_long (a0 a1 a2 : Int) (a3 : Option Addr) (N cap : Nat) (w : World) (h : 65536 < N) (hm : N ≤ 9223372036854775807) :
    Calls Yba.prog 3 #[.int .u16 a0, .int .i64 a1, .int .u16 a2, .slice a3 N cap] w fun e w' => e = .returned (.bool true) ∧ Below w.heap.size w w' := by
  have h' : (65536 : Int) < (N : Int) := by omega
  go_enter Yba.func3, Yba.ntmps3
  go_wp2_with fail
  go_ret
  exact ⟨rfl, Below.refl _ _⟩

theorem add_at (b off n : Nat) : (⟨b, off, none⟩ : Addr).add n = ⟨b, off + n, none⟩ := by
  unfold Addr.add; split
  · rename_i h; subst h; rfl
  · rfl

/-- The walk, whatever comes in. -/
theorem walk (a0 : Int) (a1 : Int) (a2 : Int) (a3 : Option Addr) (len3 cap3 : Nat) (z3 : List Int) (w : World) (w0 : (Lit.int .u16 a0).wf = true) (w1 : (Lit.int .i64 a1).wf = true) (w2 : (Lit.int .u16 a2).wf = true) (w3 : IsRow .u16 w a3 len3 cap3 z3) :
    Calls Yba.prog 3 #[.int .u16 a0, .int .i64 a1, .int .u16 a2, .slice a3 len3 cap3] w fun e w' => e = .returned (.bool true) ∧ Below w.heap.size w w' := by
  have b0 := bounds_u16 w0
  have b2 := bounds_u16 w2
  have hn : (1 + a0 % 200 : Int) = ((1 + a0 % 200).toNat : Nat) := by omega
  have hp : a2 % ((1 + a0 % 200).toNat : Int) = ((a2 % ((1 + a0 % 200).toNat : Int)).toNat : Nat) := by
    have := Int.emod_nonneg a2 (show ((1 + a0 % 200).toNat : Int) ≠ 0 by omega)
    omega
  have hfq : ∀ (z : Nat → Int) (j : Nat), z j % ((1 + a0 % 200).toNat : Int) = ((z j % ((1 + a0 % 200).toNat : Int)).toNat : Nat) := fun z j => by
    have := Int.emod_nonneg (z j) (show ((1 + a0 % 200).toNat : Int) ≠ 0 by omega)
    omega
  rcases w3 with ⟨rfl, rfl, rfl, rfl⟩ | ⟨x, rfl, hl, hm, hz, hc, hw⟩
  · exact law_main a0 a1 a2 none 0 0 0 0 _ _ (fun _ => 0) _ w (by omega) ⟨by omega, by omega⟩ ⟨by omega, by omega⟩ (fun h => by omega) (fun _ => rfl) (fun j hj => by omega) hn hp (fun j _ => hfq (fun _ => 0) j)
  · by_cases h1 : 65536 < len3
    · exact law_long a0 a1 a2 _ len3 cap3 w h1 (by unfold maxLen at hm; omega)
    · by_cases h0 : len3 = 0
      · subst h0
        exact law_main a0 a1 a2 (some x) 0 cap3 0 0 _ _ (fun _ => 0) _ w (by omega) ⟨by omega, by omega⟩ ⟨by omega, by omega⟩ (fun h => by omega) (fun h => by cases h) (fun j hj => by omega) hn hp (fun j _ => hfq (fun _ => 0) j)
      · obtain ⟨b, off, spot⟩ := x
        have hspot : spot = none := by
          have := World.cell?_spot (hc 0 (by omega))
          simpa [Addr.add] using this
        subst hspot
        refine law_main a0 a1 a2 (some ⟨b, off, none⟩) len3 cap3 b off _ _ (fun j => z3.getD j 0) _ w (by omega) ⟨by omega, by omega⟩ ⟨by omega, by omega⟩ (fun _ => ⟨rfl, ?_⟩) (fun h => by cases h) (fun j hj => ?_) hn hp (fun j _ => hfq (fun j => z3.getD j 0) j)
        · have := hc 0 (by omega)
          rw [add_at] at this
          exact World.block_lt_of_cell? w _ this
        · have := hc j (by omega)
          rw [add_at] at this
          have hj' : j < z3.length := by omega
          have hmem : z3.getD j 0 ∈ z3 := by
            rw [List.getD_eq_getElem?_getD, List.getElem?_eq_getElem hj']
            exact List.getElem_mem hj'
          have := bounds_u16 (hw _ hmem)
          exact ⟨by assumption, by omega, by omega⟩

/-! ### THE ROW's STEP: WRITTEN OUT: LEAVE IT -/
set_option maxRecDepth 100000 in
theorem lifted (os : Os) (started : os.Started) (H : Type) (enc : TypeId × Value → H) :
    ReturnsInHanded {} Yba.checked os 3 .any (Rows.lawS6350AWholeSpec.pre6 enc Yba.prog Yba.f3 Rows.lawS6350AWholeRow.domain false) (Rows.lawS6350AWholeSpec.post enc Yba.prog Yba.f3 false true false false) := by
  refine returnsInHanded_of_change (C := Yba.checked) own started (by kernel_rfl) Yba.func3
    (ChangeSpec.witness6 (enc := enc) (C := Yba.checked) false ⟨#[], #[.int .u16 0, .int .i64 0, .int .u16 0, .slice none 0 0], []⟩ 8 (by kernel_rfl) (by kernel_rfl) (by kernel_rfl) (by kernel_rfl)) ?_
  intro W base args ds gs before hval0 hW hcnd _
  have hval : ∀ (j : Nat) t v, Yba.f3.params[j]? = some t → args[j]? = some v → Value.okWide Yba.prog W .any base t v := hval0
  have hW' := hW
  obtain ⟨p, q, hA0, hV, rfl, hfz, hnd⟩ := hW
  have hA : DataW.TrodAll enc Yba.prog W 0 (fun _ => true) true Yba.f3.params.toList args.toList ds p := hA0
  rw [Yba.params3] at hA hval
  obtain ⟨v0, vs0, d0, ds0, p0, q0, hargs, rfl, rfl, h0, r0⟩ := trodAll_cons hA
  obtain ⟨v1, vs1, d1, ds1, p1, q1, rfl, rfl, rfl, h1, r1⟩ := trodAll_cons r0
  obtain ⟨v2, vs2, d2, ds2, p2, q2, rfl, rfl, rfl, h2, r2⟩ := trodAll_cons r1
  obtain ⟨v3, vs3, d3, ds3, p3, q3, rfl, rfl, rfl, h3, r3⟩ := trodAll_cons r2
  obtain ⟨rfl, rfl, rfl⟩ := trodAll_nil r3
  obtain rfl : args = #[v0, v1, v2, v3] := by cases args; simp_all
  obtain ⟨rfl, rfl⟩ := trodVars_none hV
  obtain ⟨a0, rfl, rfl, rfl, w0⟩ := open_int Yba.underlying22 (hval 0 22 v0 rfl rfl) h0
  obtain ⟨a1, rfl, rfl, rfl, w1⟩ := open_int Yba.underlying3 (hval 1 3 v1 rfl rfl) h1
  obtain ⟨a2, rfl, rfl, rfl, w2⟩ := open_int Yba.underlying22 (hval 2 22 v2 rfl rfl) h2
  obtain ⟨a3, len3, cap3, rfl⟩ := okWide_slice Yba.underlying23 (hval 3 23 v3 rfl rfl)
  have k3 := h3
  have lt3 : ∀ x ∈ p3, x.block < W.heap.size := by obtain ⟨m, hm⟩ := k3; exact DataW.trod_lt m _ _ _ hm
  obtain ⟨z3, w3⟩ : ∃ zs, IsRow .u16 W a3 len3 cap3 zs := by
    obtain ⟨fuel, hf⟩ := h3
    rcases open_ints Yba.underlying23 Yba.underlying22 (by kernel_rfl) hf with ⟨hcs, _⟩ | ⟨x, l, c, zs, hcs, _, hl, hm, hz, _, hcell, hwz⟩
    · simp [Value.cells] at hcs
      obtain ⟨rfl, rfl, rfl⟩ := hcs
      exact ⟨[], .inl ⟨rfl, rfl, rfl, rfl⟩⟩
    · simp [Value.cells] at hcs
      obtain ⟨rfl, rfl, rfl⟩ := hcs
      exact ⟨zs, .inr ⟨_, rfl, hl, hm, by simpa using hz, hcell, hwz⟩⟩
  clear hA0 hval0
  refine (walk a0 a1 a2 a3 len3 cap3 z3 W w0 w1 w2 w3).mono fun e W' ⟨he, bel⟩ => ?_
  subst he
  exact ⟨_, rfl, _, _, _, [], _, [], hW', trodAll_mk1 (shut_bool Yba.underlying4 _), (trodAll_cons_mk (shut_int Yba.underlying22 w0) (trodAll_cons_mk (shut_int Yba.underlying3 w1) (trodAll_cons_mk (shut_int Yba.underlying22 w2) (trodAll_cons_mk (Below.trod laidOut (by kernel_rfl) (of_decide_eq_true (by kernel_rfl)) k3 bel lt3) trodAll_mk0)))), rfl, bel.frame _, fun h => by cases h⟩

theorem over : Rows.lawS6350AWholeRow.holds Yba.pinned (OpenSpec.ofChange Rows.lawS6350AWholeSpec) :=
  OpenClaim.holds_of_wide 3 Yba.f3 rfl rfl rfl rfl rfl rfl rfl ⟨rfl, rfl, rfl, rfl, rfl⟩ rfl rfl rfl rfl rfl (by kernel_rfl) Yba.func3 (by kernel_rfl)
    (of_decide_eq_true (by kernel_rfl)) (by unfold Func.isWrapper; first | (rw [if_pos (by decide +kernel)]; kernel_rfl) | (rw [if_neg (by decide +kernel)]; exact ⟨rfl, rfl⟩))
    (fun os started H enc _ => lifted os started H enc)

/-- ████ THE STATEMENT ████ -/
theorem proved : Rows.LawS6350AWholeSaid := over
#print axioms proved
end Go.Proofs.Ybulkeamg.lawS6350AWhole
