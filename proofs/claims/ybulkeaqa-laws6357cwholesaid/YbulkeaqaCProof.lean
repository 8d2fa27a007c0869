/- The proof of 'Rows.LawS6357CWholeSaid': the row's frame after the kit's template; the walk: YbulkeaqaCMain. -/
import Derived.Test.YbulkeaqaCMain
import Derived.WalkKit
import Derived.ProofKit
import Derived.OpenShut
import Derived.SizedLaws
import Derived.Deep.Slices
namespace Go.Proofs.Ybulkeaqa.lawS6357CWhole
open Go.ChangeShapes Go.WideShapes Go.ChangeAt Go.RowKit Go.Deep

theorem own : ownKnob Yba.prog.godebug = none := by kernel_rfl
theorem laidOut : laidOutB Yba.prog = true := by kernel_rfl
theorem cells5 : Yba.prog.cellsOf 5 = 1 := by kernel_rfl
theorem cells34 : Yba.prog.cellsOf 34 = 8 := by kernel_rfl

theorem lt_of_cell {w : World} {b o : Nat} {v : Value} (h : w.cell? ⟨b, o, none⟩ = some v) : b < w.heap.size := by
  refine Classical.byContradiction fun hno => ?_
  have : w.heap[b]? = none := Array.getElem?_eq_none (by omega)
  simp [World.cell?, this] at h

theorem add_at (b off n : Nat) : (⟨b, off, none⟩ : Addr).add n = ⟨b, off + n, none⟩ := by
  unfold Addr.add; split
  · rename_i h; subst h; rfl
  · rfl

theorem u8_bounds {x : Int} (h : (Lit.int .u8 x).wf = true) : 0 ≤ x ∧ x ≤ 255 := by
  have := bounds_u8 h
  omega

/-- What the first argument is, as the walk asks it. -/
theorem tags_open {H : Type} {enc : TypeId × Value → H} {W : World} {fuel : Nat} {v : Value} {x : DataW H × List MemPlace} (h : DataW.trod enc Yba.prog W 0 (fun _ => true) true fuel 59 [v] = some x) :
    ∃ sA sb so n sc TG, v = .slice sA n sc ∧ n ≤ maxLen ∧ Tags W sA sb so n TG := by
  rcases open_slice Yba.underlying59 h with ⟨hcs, _⟩ | ⟨a, len, cap, m, n, D, Pl, hcs, _, hl, hm, hmm, hx, hc⟩
  · obtain rfl : v = .slice none 0 0 := by simpa using hcs
    exact ⟨none, 0, 0, 0, 0, fun _ _ => 0, rfl, by simp, ⟨fun h => by omega, fun _ _ h => by omega⟩⟩
  · obtain rfl : v = .slice (some a) len cap := by simpa using hcs
    have hlm : len ≤ m := by rw [hmm]; simp; exact hl
    by_cases h0 : len = 0
    · subst h0
      exact ⟨some a, 0, 0, 0, cap, fun _ _ => 0, rfl, by simp, ⟨fun h => by omega, fun _ _ h => by omega⟩⟩
    · have each : ∀ j, j < len → ∃ T : Nat → Int, ∀ i, i < 8 → W.cell? (a.add (j * 8 + i)) = some (.int .u8 (T i)) ∧ 0 ≤ T i ∧ T i ≤ 255 := by
        intro j hj
        obtain ⟨cs', h1, h2⟩ := hc j (by omega)
        rw [cells34] at h1
        obtain ⟨_, hlen, hcell⟩ := World.cells?_some h1
        obtain ⟨xs, k, _, _, _, hxl, hf⟩ := DataW.trod_array Yba.underlying34 h2
        have one : ∀ i, i < 8 → ∃ t : Int, W.cell? (a.add (j * 8 + i)) = some (.int .u8 t) ∧ 0 ≤ t ∧ t ≤ 255 := by
          intro i hi
          have e := hcell i (by omega)
          have g := hf i (by omega)
          have hi' : i < cs'.length := by omega
          rw [cells5, Nat.mul_one, List.drop_eq_getElem_cons hi', List.take_succ_cons, List.take_zero, List.getElem?_eq_getElem (by omega)] at g
          obtain ⟨t, e0, _, wt⟩ := DataW.trod_int Yba.underlying5 g
          have e1 : cs'[i] = .int .u8 t := by simpa using e0
          rw [add_add, List.getElem?_eq_getElem hi', e1] at e
          exact ⟨t, e, u8_bounds wt⟩
        exact choose_lt one
      obtain ⟨T, hT⟩ := choose_lt each
      obtain ⟨b, off, spot⟩ := a
      have hspot : spot = none := by
        have := World.cell?_spot (hT 0 (by omega) 0 (by omega)).1
        simpa [Addr.add] using this
      subst hspot
      have hT' : ∀ j i, j < len → i < 8 → W.cell? ⟨b, off + j * 8 + i, none⟩ = some (.int .u8 (T j i)) ∧ 0 ≤ T j i ∧ T j i ≤ 255 := by
        intro j i hj hi
        have := hT j hj i hi
        rw [add_at, ← Nat.add_assoc] at this
        exact this
      exact ⟨some ⟨b, off, none⟩, b, off, len, cap, T, rfl, by omega, ⟨fun _ => ⟨rfl, lt_of_cell (hT' 0 0 (by omega) (by omega)).1⟩, hT'⟩⟩

theorem walk (sA : Option Addr) (sb so n sc : Nat) (TG : Nat → Nat → Int) (lim : Int) (w : World) (hn : n ≤ maxLen) (hl : 0 ≤ lim ∧ lim ≤ 65535) (hT : Tags w sA sb so n TG) :
    Calls Yba.prog 4 #[.slice sA n sc, .int .u16 lim] w fun e w' => e = .returned (.bool true) ∧ Below w.heap.size w w' := by
  unfold maxLen at hn
  obtain ⟨l, rfl⟩ := Int.eq_ofNat_of_zero_le hl.1
  by_cases h1 : 65536 < n
  · exact lawC_long sA n sc l w h1 (by omega)
  · exact lawC_main sA sb so n sc TG l w (by omega) (by omega) hT

set_option maxRecDepth 100000 in
theorem lifted (os : Os) (started : os.Started) (H : Type) (enc : TypeId × Value → H) :
    ReturnsInHanded {} Yba.checked os 4 .any (Rows.lawS6357CWholeSpec.pre6 enc Yba.prog Yba.f4 Rows.lawS6357CWholeRow.domain false) (Rows.lawS6357CWholeSpec.post enc Yba.prog Yba.f4 false true false false) := by
  refine returnsInHanded_of_change_sized (C := Yba.checked) own started (by kernel_rfl) Yba.func4
    (ChangeSpec.witness6 (enc := enc) (C := Yba.checked) false ⟨#[], #[.slice none 0 0, .int .u16 0], []⟩ 8 (by kernel_rfl) (by kernel_rfl) (by kernel_rfl) (by kernel_rfl)) ?_
  intro W base args ds gs before hval0 hW hcnd0 hsz0 hholds
  have hval : ∀ (j : Nat) t v, Yba.f4.params[j]? = some t → args[j]? = some v → Value.okWide Yba.prog W .any base t v := hval0
  have hW' := hW
  obtain ⟨p, q, hA0, hV, rfl, _, _⟩ := hW
  have hA : DataW.TrodAll enc Yba.prog W 0 (fun _ => true) true Yba.f4.params.toList args.toList ds p := hA0
  rw [Yba.params4] at hA hval
  obtain ⟨v0, v1, d0, d1, p0, p1, rfl, rfl, rfl, h0, h1⟩ := trodAll_two hA
  obtain ⟨rfl, rfl⟩ := trodVars_none hV
  obtain ⟨a1, rfl, rfl, rfl, w1⟩ := open_int Yba.underlying60 (hval 1 60 v1 rfl rfl) h1
  obtain ⟨s0, l0, c0, e0⟩ := okWide_slice Yba.underlying59 (hval 0 59 v0 rfl rfl)
  subst e0
  have h0k := h0
  obtain ⟨fuel0, hf0⟩ := h0
  clear hA0 hval0
  simp only [List.append_nil] at hW'
  have hlt : ∀ x ∈ p0, x.block < W.heap.size := fun x hx => hW'.lt x (by simpa using hx)
  obtain ⟨sA, sb, so, n, sc, TG, es, hn, hT⟩ := tags_open (v := .slice s0 l0 c0) hf0
  cases es
  refine (walk s0 sb so l0 c0 TG a1 W hn (by have := bounds_u16 w1; omega) hT).mono fun e W' ⟨he, hb⟩ => ?_
  subst he
  refine ⟨_, rfl, _, _, _, [], p0, [], hW', ?_, ?_, rfl, hb.frame _, fun h => by cases h⟩
  · exact trodAll_mk1 (shut_bool Yba.underlying4 _)
  · have := trodAll_mk2 (Below.trod laidOut (by kernel_rfl) (of_decide_eq_true (by kernel_rfl)) h0k hb (fun x hx => hlt x (by simp [hx]))) (shut_int Yba.underlying60 w1)
    simp only [List.append_nil] at this
    exact this

theorem over : Rows.lawS6357CWholeRow.holds Yba.pinned (OpenSpec.ofChange Rows.lawS6357CWholeSpec) :=
  OpenClaim.holds_of_wide 4 Yba.f4 rfl rfl rfl rfl rfl rfl rfl ⟨rfl, rfl, rfl, rfl, rfl⟩ rfl rfl rfl rfl rfl (by kernel_rfl) Yba.func4 (by kernel_rfl)
    (of_decide_eq_true (by kernel_rfl)) (by unfold Func.isWrapper; first | (rw [if_pos (by decide +kernel)]; kernel_rfl) | (rw [if_neg (by decide +kernel)]; exact ⟨rfl, rfl⟩))
    (fun os started H enc _ => lifted os started H enc)

theorem proved : Rows.LawS6357CWholeSaid :=
  over
#print axioms proved
end Go.Proofs.Ybulkeaqa.lawS6357CWhole
