/- The proof of 'Rows.LawS6349AWholeSaid': the row's frame after the kit's template (XProofs, FilterProofs); the walk: YbulkealsMain. -/
import Derived.Test.YbulkealsMain
import Derived.WalkKit
import Derived.ProofKit
import Derived.OpenShut
import Derived.ShutString
import Derived.SizedLaws
import Derived.Deep.SlicePairs
import Derived.Deep.Strs
namespace Go.Proofs.Ybulkeals.lawS6349AWhole
open Go.ChangeShapes Go.WideShapes Go.ChangeAt Go.RowKit Go.Deep
open Go.ChangeMaps (open_string shut_string)

theorem own : ownKnob Yba.prog.godebug = none := by kernel_rfl
theorem laidOut : laidOutB Yba.prog = true := by kernel_rfl
theorem cells5 : Yba.prog.cellsOf 5 = 1 := by kernel_rfl
theorem cells9 : Yba.prog.cellsOf 9 = 1 := by kernel_rfl
theorem cells24 : Yba.prog.cellsOf 24 = 1 := by kernel_rfl
theorem cells26 : Yba.prog.cellsOf 26 = 2 := by kernel_rfl
theorem bytes5 : Yba.prog.bytesOf 5 = 1 := by kernel_rfl

theorem lt_of_cell {w : World} {b o : Nat} {v : Value} (h : w.cell? ⟨b, o, none⟩ = some v) : b < w.heap.size := by
  refine Classical.byContradiction fun hno => ?_
  have : w.heap[b]? = none := Array.getElem?_eq_none (by omega)
  simp [World.cell?, this] at h

theorem add_at (b off n : Nat) : (⟨b, off, none⟩ : Addr).add n = ⟨b, off + n, none⟩ := by
  unfold Addr.add; split
  · rename_i h; subst h; rfl
  · rfl

theorem mem_weightsAll {H : Type} {P : Program} {e : TypeId} {d : DataW H} {n : Nat} : ∀ {l : List (DataW H)}, d ∈ l → n ∈ d.weights P e → n ∈ DataW.weightsAll P e l
  | x :: l, hd, hn => by
    simp only [DataW.weightsAll, List.mem_append]
    rcases List.mem_cons.1 hd with rfl | hd
    · exact .inl hn
    · exact .inr (mem_weightsAll hd hn)

theorem keys_reach {H : Type} {f : Nat → DataW H} {sp : List (DataW H)} {d1 d2 d3 : DataW H} {len s : Nat} (h : (DataW.weightsEach Yba.prog [22, 23, 5, 9] [.slice ((List.range len).map f) sp, d1, d2, d3]).all (· ≤ reachBytes) = true) (hs : s < len)
    {x : DataW H} {el sp' : List (DataW H)} (hf : f s = .agg [x, .slice el sp']) : el.length ≤ 140737488351232 := by
  have h1 : (el.length + sp'.length) * Yba.prog.bytesOf 5 ∈ (DataW.slice ((List.range len).map f) sp).weights Yba.prog 22 := by
    simp only [DataW.weights, Yba.underlying22, List.mem_cons, List.mem_append]
    refine .inr (.inl (mem_weightsAll (List.mem_map.2 ⟨s, List.mem_range.2 hs, rfl⟩) ?_))
    rw [hf]
    simp [DataW.weights, Yba.underlying26, Yba.underlying24, DataW.weightsEach]
  have h2 := List.all_eq_true.1 h _ (DataW.weights_mem_each (j := 0) (t := 22) rfl rfl _ h1)
  have h3 : (el.length + sp'.length) * Yba.prog.bytesOf 5 ≤ reachBytes := of_decide_eq_true h2
  rw [bytes5] at h3
  unfold reachBytes at h3
  omega

theorem u8_bounds {x : Int} (h : (Lit.int .u8 x).wf = true) : 0 ≤ x ∧ x ≤ 255 := by
  have := bounds_u8 h
  omega

/-- What the first argument is, as the walk asks it. -/
theorem steps_open {H : Type} {enc : TypeId × Value → H} {W : World} {fuel : Nat} {v : Value} {x : DataW H × List MemPlace} (h : DataW.trod enc Yba.prog W 0 (fun _ => true) true fuel 22 [v] = some x)
    (hsz : ∀ (f : Nat → DataW H) (sp : List (DataW H)) (len s : Nat) (y : DataW H) (el sp' : List (DataW H)), x.1 = .slice ((List.range len).map f) sp → s < len → f s = .agg [y, .slice el sp'] → el.length ≤ 140737488351232) :
    ∃ sA sb so n sc ID KA kb ko KL KC KZ, v = .slice sA n sc ∧ n ≤ maxLen ∧ Steps6 W sA sb so n ID KA kb ko KL KC KZ ∧ ∀ s, s < n → KL s ≤ 140737488351232 := by
  rcases open_slice_pairs Yba.underlying22 Yba.underlying26 cells26 rfl rfl cells5 cells24 h with ⟨hcs, _⟩ | ⟨a, len, cap, m, n, V0, V1, D0, D1, P0, P1, hcs, _, hl, hm, hmm, hx, hc⟩
  · obtain rfl : v = .slice none 0 0 := by simpa using hcs
    exact ⟨none, 0, 0, 0, 0, fun _ => 0, fun _ => none, fun _ => 0, fun _ => 0, fun _ => 0, fun _ => 0, fun _ _ => 0, rfl, by simp, ⟨fun h => by omega, fun _ h => by omega, fun _ h => by omega, fun _ h => by omega, fun _ _ h => by omega⟩, fun _ h => by omega⟩
  · obtain rfl : v = .slice (some a) len cap := by simpa using hcs
    have hlm : len ≤ m := by rw [hmm]; simp; exact hl
    by_cases h0 : len = 0
    · subst h0
      exact ⟨some a, 0, 0, 0, cap, fun _ => 0, fun _ => none, fun _ => 0, fun _ => 0, fun _ => 0, fun _ => 0, fun _ _ => 0, rfl, by simp, ⟨fun h => by omega, fun _ h => by omega, fun _ h => by omega, fun _ h => by omega, fun _ _ h => by omega⟩, fun _ h => by omega⟩
    · obtain ⟨b, off, spot⟩ := a
      have hspot : spot = none := by
        have := World.cell?_spot (hc 0 (by omega)).1
        simpa [Addr.add] using this
      subst hspot
      have each : ∀ s, s < len → ∃ q : Int × Option Addr × Nat × Nat × Nat × Nat × (Nat → Int), W.cell? ⟨b, off + s * 2, none⟩ = some (.int .u8 q.1) ∧ 0 ≤ q.1 ∧ q.1 ≤ 255 ∧ W.cell? ⟨b, off + s * 2 + 1, none⟩ = some (.slice q.2.1 q.2.2.2.2.1 q.2.2.2.2.2.1) ∧
          (0 < q.2.2.2.2.1 → q.2.1 = some ⟨q.2.2.1, q.2.2.2.1, none⟩ ∧ q.2.2.1 < W.heap.size) ∧ (∀ k, k < q.2.2.2.2.1 → W.cell? ⟨q.2.2.1, q.2.2.2.1 + k, none⟩ = some (.int .u8 (q.2.2.2.2.2.2 k)) ∧ 0 ≤ q.2.2.2.2.2.2 k ∧ q.2.2.2.2.2.2 k ≤ 255) ∧ q.2.2.2.2.1 ≤ 140737488351232 := by
        intro s hs
        obtain ⟨c0, c1, t0, t1⟩ := hc s (by omega)
        rw [add_at] at c0 c1
        obtain ⟨i, e0, hd0, wi⟩ := DataW.trod_int Yba.underlying5 t0
        have e0' : V0 s = .int .u8 i := by simpa using e0
        obtain ⟨b1, b2⟩ := u8_bounds wi
        rw [e0'] at c0
        rcases open_ints Yba.underlying24 Yba.underlying5 cells5 t1 with ⟨hk, _⟩ | ⟨ka, kl, kc, zs, hk, _, hkl, _, hz, hxk, hkc, hkw⟩
        · have e1 : V1 s = .slice none 0 0 := by simpa using hk
          rw [e1] at c1
          exact ⟨(i, none, 0, 0, 0, 0, fun _ => 0), c0, b1, b2, c1, fun h => absurd h (by simp), fun k h => absurd h (by simp), by simp⟩
        · have e1 : V1 s = .slice (some ka) kl kc := by simpa using hk
          rw [e1] at c1
          simp only [if_true] at hz
          have hr : kl ≤ 140737488351232 := by
            have := hsz (fun i => .agg [D0 i, D1 i]) _ len s (D0 s) (lits .u8 (zs.take kl)) (lits .u8 (zs.drop kl)) (by rw [hx]) hs (by simp only [Prod.mk.injEq] at hxk; rw [hxk.1])
            simp only [lits, List.length_map, List.length_take] at this
            omega
          by_cases hk0 : kl = 0
          · subst hk0
            exact ⟨(i, some ka, 0, 0, 0, kc, fun _ => 0), c0, b1, b2, c1, fun h => absurd h (by simp), fun k h => absurd h (by simp), by simp⟩
          · obtain ⟨kb, ko, rfl, hkc'⟩ := ints_at hkc (by omega)
            refine ⟨(i, some ⟨kb, ko, none⟩, kb, ko, kl, kc, fun k => zs.getD k 0), c0, b1, b2, c1, fun _ => ⟨rfl, lt_of_cell (hkc' 0 (by omega))⟩, fun k h => ⟨hkc' k (by simp at h; omega), ?_⟩, hr⟩
            have hk' : k < zs.length := by simp at h; omega
            have : zs.getD k 0 ∈ zs := by
              rw [List.getD_eq_getElem?_getD, List.getElem?_eq_getElem hk']
              exact List.getElem_mem hk'
            exact u8_bounds (hkw _ this)
      obtain ⟨q, hq⟩ := choose_lt each
      refine ⟨some ⟨b, off, none⟩, b, off, len, cap, fun s => (q s).1, fun s => (q s).2.1, fun s => (q s).2.2.1, fun s => (q s).2.2.2.1, fun s => (q s).2.2.2.2.1, fun s => (q s).2.2.2.2.2.1, fun s => (q s).2.2.2.2.2.2, rfl, by omega, ⟨fun _ => ⟨rfl, lt_of_cell (hq 0 (by omega)).1⟩, fun s hs => ⟨(hq s hs).1, (hq s hs).2.1, (hq s hs).2.2.1⟩, fun s hs => (hq s hs).2.2.2.1, fun s hs => (hq s hs).2.2.2.2.1, fun s k hs hk => (hq s hs).2.2.2.2.2.1 k hk⟩, fun s hs => (hq s hs).2.2.2.2.2.2⟩

/-- What the second argument is. -/
theorem ids_open {H : Type} {enc : TypeId × Value → H} {W : World} {fuel : Nat} {v : Value} {x : DataW H × List MemPlace} (h : DataW.trod enc Yba.prog W 0 (fun _ => true) true fuel 23 [v] = some x) :
    ∃ iA m ic xs, v = .slice iA m ic ∧ m ≤ maxLen ∧ SliceIs W iA m xs ∧ ∀ b off, iA = some ⟨b, off, none⟩ → 0 < m → b < W.heap.size := by
  rcases open_strs Yba.underlying23 Yba.underlying9 cells9 h with ⟨hcs, _⟩ | ⟨a, len, cap, m, Sx, hcs, _, hl, hm, hmm, hx, hc⟩
  · obtain rfl : v = .slice none 0 0 := by simpa using hcs
    exact ⟨none, 0, 0, [], rfl, by simp, ⟨rfl, fun h => by omega⟩, fun _ _ e => by cases e⟩
  · obtain rfl : v = .slice (some a) len cap := by simpa using hcs
    have hlm : len ≤ m := by rw [hmm]; simp; exact hl
    by_cases h0 : len = 0
    · subst h0
      exact ⟨some a, 0, cap, [], rfl, by simp, ⟨rfl, fun h => by omega⟩, fun _ _ _ h => by omega⟩
    · obtain ⟨b, off, spot⟩ := a
      have hspot : spot = none := by
        have := World.cell?_spot (hc 0 (by omega)).1
        simpa [Addr.add] using this
      subst hspot
      refine ⟨some ⟨b, off, none⟩, len, cap, (List.range len).map Sx, rfl, by omega, ⟨by simp, fun _ => ⟨b, off, rfl, fun j hj => ?_⟩⟩, ?_⟩
      · have := (hc j (by omega)).1
        rw [add_at] at this
        rw [this]
        simp [List.getD_eq_getElem?_getD, hj]
      · intro b' off' e _
        cases e
        have := (hc 0 (by omega)).1
        rw [add_at] at this
        exact lt_of_cell this

theorem walk (sA iA : Option Addr) (sb so n sc m ic : Nat) (ID : Nat → Int) (KA : Nat → Option Addr) (kb ko KL KC : Nat → Nat) (KZ : Nat → Nat → Int) (sel : Int) (raw : ByteArray) (w : World) (hn : n ≤ maxLen) (hm : m ≤ maxLen)
    (hS : Steps6 w sA sb so n ID KA kb ko KL KC KZ) (hK : ∀ s, s < n → KL s ≤ 140737488351232) (hsel : 0 ≤ sel ∧ sel ≤ 255)
    (xs : List ByteArray) (hxs : SliceIs w iA m xs) (hib : ∀ b off, iA = some ⟨b, off, none⟩ → 0 < m → b < w.heap.size) :
    Calls Yba.prog 3 #[.slice sA n sc, .slice iA m ic, .int .u8 sel, .string raw] w fun e w' => e = .returned (.bool true) ∧ Below w.heap.size w w' := by
  unfold maxLen at hn hm
  by_cases h1 : 65536 < n ∨ 65536 < m
  · exact law_long sA iA n sc m ic sel raw w h1 hn hm
  · by_cases h2 : 1048576 < tot KL n
    · exact law_total sA iA sb so n sc m ic KA KL KC sel raw w (by omega) (by omega) (fun h => (hS.at_ h).1) hS.keys hK h2
    · exact law_main sA iA sb so n sc m ic ID KA kb ko KL KC KZ sel raw w (by omega) (by omega) hS (by omega) hsel xs hxs hib

set_option maxRecDepth 100000 in
theorem lifted (os : Os) (started : os.Started) (H : Type) (enc : TypeId × Value → H) :
    ReturnsInHanded {} Yba.checked os 3 .any (Rows.lawS6349AWholeSpec.pre6 enc Yba.prog Yba.f3 Rows.lawS6349AWholeRow.domain false) (Rows.lawS6349AWholeSpec.post enc Yba.prog Yba.f3 false true false false) := by
  refine returnsInHanded_of_change_sized (C := Yba.checked) own started (by kernel_rfl) Yba.func3
    (ChangeSpec.witness6 (enc := enc) (C := Yba.checked) false ⟨#[], #[.slice none 0 0, .slice none 0 0, .int .u8 0, .string ByteArray.empty], []⟩ 8 (by kernel_rfl) (by kernel_rfl) (by kernel_rfl) (by kernel_rfl)) ?_
  intro W base args ds gs before hval0 hW hcnd0 hsz0 hholds
  have hval : ∀ (j : Nat) t v, Yba.f3.params[j]? = some t → args[j]? = some v → Value.okWide Yba.prog W .any base t v := hval0
  have hsz : (DataW.weightsEach Yba.prog (Yba.f3.params.toList ++ Rows.lawS6349AWholeSpec.plain.varTypes Yba.prog) (ds ++ gs)).all (· ≤ reachBytes) = true := hsz0
  have hW' := hW
  obtain ⟨p, q, hA0, hV, rfl, _, _⟩ := hW
  have hA : DataW.TrodAll enc Yba.prog W 0 (fun _ => true) true Yba.f3.params.toList args.toList ds p := hA0
  rw [Yba.params3] at hA hval hsz
  obtain ⟨v0, v1, v2, v3, d0, d1, d2, d3, p0, p1, p2, p3, rfl, rfl, rfl, h0, h1, h2, h3⟩ := trodAll_four hA
  obtain ⟨rfl, rfl⟩ := trodVars_none hV
  obtain ⟨a2, rfl, rfl, rfl, w2⟩ := open_int Yba.underlying5 (hval 2 5 v2 rfl rfl) h2
  obtain ⟨a3, rfl, rfl, rfl, w3⟩ := open_string Yba.underlying9 (hval 3 9 v3 rfl rfl) h3
  obtain ⟨s0, l0, c0, e0⟩ := okWide_slice Yba.underlying22 (hval 0 22 v0 rfl rfl)
  obtain ⟨s1, l1, c1, e1⟩ := okWide_slice Yba.underlying23 (hval 1 23 v1 rfl rfl)
  subst e0; subst e1
  have h0k := h0
  have h1k := h1
  obtain ⟨fuel0, hf0⟩ := h0
  obtain ⟨fuel1, hf1⟩ := h1
  clear hA0 hval0
  simp only [List.append_nil] at hW'
  have hlt : ∀ x ∈ p0 ++ p1, x.block < W.heap.size := fun x hx => hW'.lt x (by simpa using hx)
  obtain ⟨sA, sb, so, n, sc, ID, KA, kb, ko, KL, KC, KZ, es, hn, hS, hK⟩ := steps_open (v := .slice s0 l0 c0) hf0 (fun f sp len s y el sp' hd hs hf => by
    have hsz' : (DataW.weightsEach Yba.prog [22, 23, 5, 9] [.slice ((List.range len).map f) sp, d1, .lit (.int .u8 a2), .lit (.string a3.data.toList)]).all (· ≤ reachBytes) = true := by
      have e : d0 = .slice ((List.range len).map f) sp := hd
      rw [← e]
      exact hsz
    exact keys_reach hsz' hs hf)
  obtain ⟨iA, m, ic, xs, ei, hm, hxs, hib⟩ := ids_open (v := .slice s1 l1 c1) hf1
  cases es
  cases ei
  refine (walk s0 s1 sb so l0 c0 l1 c1 ID KA kb ko KL KC KZ a2 a3 W hn hm hS hK (u8_bounds w2) xs hxs hib).mono fun e W' ⟨he, hb⟩ => ?_
  subst he
  refine ⟨_, rfl, _, _, _, [], p0 ++ p1, [], hW', ?_, ?_, rfl, hb.frame _, fun h => by cases h⟩
  · exact trodAll_mk1 (shut_bool Yba.underlying4 _)
  · have := trodAll_mk4 (Below.trod laidOut (by kernel_rfl) (of_decide_eq_true (by kernel_rfl)) h0k hb (fun x hx => hlt x (by simp [hx]))) (Below.trod laidOut (by kernel_rfl) (of_decide_eq_true (by kernel_rfl)) h1k hb (fun x hx => hlt x (by simp [hx]))) (shut_int Yba.underlying5 w2) (shut_string Yba.underlying9 w3)
    simp only [List.append_nil] at this
    exact this

theorem over : Rows.lawS6349AWholeRow.holds Yba.pinned (OpenSpec.ofChange Rows.lawS6349AWholeSpec) :=
  OpenClaim.holds_of_wide 3 Yba.f3 rfl rfl rfl rfl rfl rfl rfl ⟨rfl, rfl, rfl, rfl, rfl⟩ rfl rfl rfl rfl rfl (by kernel_rfl) Yba.func3 (by kernel_rfl)
    (of_decide_eq_true (by kernel_rfl)) (by unfold Func.isWrapper; first | (rw [if_pos (by decide +kernel)]; kernel_rfl) | (rw [if_neg (by decide +kernel)]; exact ⟨rfl, rfl⟩))
    (fun os started H enc _ => lifted os started H enc)

theorem proved : Rows.LawS6349AWholeSaid :=
  over
#print axioms proved
end Go.Proofs.Ybulkeals.lawS6349AWhole
