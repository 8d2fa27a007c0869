/- LawS6357AWhole: the functions that are called. -/
import Derived.Test.YbulkeaqaDoorBase
import Derived.Lib.LazyBuf
namespace Go.Proofs.YbulkeaqaDoor
open Go.RowKit
set_option linter.unusedSimpArgs false

@[go_sem] theorem eql24 (a : Option Addr) (l c : Nat) (w : World) : (binOp .eql 24 (.slice a l c) (.slice none 0 0)).run Ybad.prog w = .ok (.bool a.isNone) w := Go.run_eql_slice_nil w 24 28 a l c Ybad.underlying24
@[go_sem] theorem neq24 (a : Option Addr) (l c : Nat) (w : World) : (binOp .neq 24 (.slice a l c) (.slice none 0 0)).run Ybad.prog w = .ok (.bool (!a.isNone)) w := Go.run_neq_slice_nil w 24 28 a l c Ybad.underlying24

theorem tz10 (w : World) (h : Tab w) : Calls Ybad.prog 8 #[.int .u64 1024] w fun e w' => e = .returned (.int .i64 10) ∧ w = w' := by
  have hc := h.c10
  have hk : IntKind.u64.wrap (bits .and .u64 1024 (IntKind.u64.wrap (-1024)) * 285870213051353865) / 288230376151711744 = 55 := by decide +kernel
  clear h
  go_enter Ybad.func8, Ybad.ntmps8
  go_wp2
  go_ret
  exact ⟨rfl, rfl⟩

theorem tz11 (w : World) (h : Tab w) : Calls Ybad.prog 8 #[.int .u64 2048] w fun e w' => e = .returned (.int .i64 11) ∧ w = w' := by
  have hc := h.c11
  have hk : IntKind.u64.wrap (bits .and .u64 2048 (IntKind.u64.wrap (-2048)) * 285870213051353865) / 288230376151711744 = 47 := by decide +kernel
  clear h
  go_enter Ybad.func8, Ybad.ntmps8
  go_wp2
  go_ret
  exact ⟨rfl, rfl⟩

theorem tz12 (w : World) (h : Tab w) : Calls Ybad.prog 8 #[.int .u64 4096] w fun e w' => e = .returned (.int .i64 12) ∧ w = w' := by
  have hc := h.c12
  have hk : IntKind.u64.wrap (bits .and .u64 4096 (IntKind.u64.wrap (-4096)) * 285870213051353865) / 288230376151711744 = 30 := by decide +kernel
  clear h
  go_enter Ybad.func8, Ybad.ntmps8
  go_wp2
  go_ret
  exact ⟨rfl, rfl⟩

theorem tz13 (w : World) (h : Tab w) : Calls Ybad.prog 8 #[.int .u64 8192] w fun e w' => e = .returned (.int .i64 13) ∧ w = w' := by
  have hc := h.c13
  have hk : IntKind.u64.wrap (bits .and .u64 8192 (IntKind.u64.wrap (-8192)) * 285870213051353865) / 288230376151711744 = 60 := by decide +kernel
  clear h
  go_enter Ybad.func8, Ybad.ntmps8
  go_wp2
  go_ret
  exact ⟨rfl, rfl⟩

theorem tz14 (w : World) (h : Tab w) : Calls Ybad.prog 8 #[.int .u64 16384] w fun e w' => e = .returned (.int .i64 14) ∧ w = w' := by
  have hc := h.c14
  have hk : IntKind.u64.wrap (bits .and .u64 16384 (IntKind.u64.wrap (-16384)) * 285870213051353865) / 288230376151711744 = 57 := by decide +kernel
  clear h
  go_enter Ybad.func8, Ybad.ntmps8
  go_wp2
  go_ret
  exact ⟨rfl, rfl⟩

theorem clone_nil (w : World) : Calls Ybad.prog 5 #[.slice none 0 0] w fun e w' => e = .returned (.slice none 0 0) ∧ w = w' := by
  go_enter Ybad.func5, Ybad.ntmps5
  go_wp2
  go_ret
  exact ⟨rfl, rfl⟩

theorem clone_row (b m : Nat) (xs : List Value) (w : World) (hl : xs.length = m) (hm : m ≤ 1000) (hx : ∀ j u, xs[j]? = some u → w.cell? ⟨b, j, none⟩ = some u) (h1 : ∀ u ∈ xs, u.oneCell' = true) (hb : b < w.heap.size) :
    Calls Ybad.prog 5 #[.slice (some ⟨b, 0, none⟩) m m] w fun e w' => ∃ v, e = .returned v ∧ w'.ownsRow w.heap.size 28 1 v m xs ∧ Below w.heap.size w w' := by
  obtain ⟨i, hi, z0, z1, z2⟩ := info_parts info28
  have hx' : ∀ j u, xs[j]? = some u → (w.alloc (.cells #[] 28)).cell? ((⟨b, 0, none⟩ : Addr).add j) = some u := by
    intro j u hj
    have e : (⟨b, 0, none⟩ : Addr).add j = ⟨b, j, none⟩ := by
      unfold Addr.add
      split
      · rename_i h; subst h; rfl
      · simp
    rw [e, World.cell?_alloc_past _ _ _ hb]
    exact hx j u hj
  have hown : (w.alloc (.cells #[] 28)).ownsRow w.heap.size 28 1 (.slice (some ⟨w.heap.size, 0, none⟩) 0 0) 0 [] :=
    ⟨rfl, .inr ⟨w.heap.size, 0, #[], rfl, Nat.le_refl _, (MapKept.heap_alloc w _).1, Nat.le_refl _, by unfold maxLen; omega, rfl, rfl⟩⟩
  have HO : Hid ((w.alloc (.cells #[] 28)).ownsRow w.heap.size 28 1 (.slice (some ⟨w.heap.size, 0, none⟩) 0 0) 0 []) := hown
  have HX : Hid _ := hx'
  clear hown hx' hx
  go_enter Ybad.func5, Ybad.ntmps5
  go_wp2_with (at_builtin; refine wpList_append_own _ rfl (.tmp 5) (.tmp 6) 24 rfl w.heap.size 28 i (.pointer none) 1 8 Ybad.underlying24 hi z0 z1 z2 rfl (by decide) _ _ _ rfl HO.out ⟨b, 0, none⟩ m m xs rfl (by omega) HX.out h1 (by unfold maxLen; omega) (by omega) (by simp) ?_; intro v' w1 hown1 hg1 _)
  go_ret
  refine ⟨v', rfl, by simpa using hown1, ?_⟩
  exact ((Below.refl _ w).alloc (Nat.le_refl _) _).grown hg1 (by simp) (fun q e => (HO.out.lt q e).1)

theorem equal_nil (w : World) : Calls Ybad.prog 7 #[.slice none 0 0, .slice none 0 0] w fun e w' => e = .returned (.bool true) ∧ w = w' := by
  go_enter Ybad.func7, Ybad.ntmps7
  go_wp2_with fail
  go_loopw [13] (fun v wr => v = .int .i64 0 ∧ wr = w) (fun _ _ => 0)
  case atStart => exact ⟨rfl, rfl⟩
  case round =>
    obtain ⟨rfl, rfl⟩ := hrel
    go_wp2_with fail
    go_ret
    exact ⟨rfl, rfl⟩

theorem equal_row (b g m c : Nat) (A : Nat → Addr) (w : World) (hm : m ≤ 1000) (h1 : ∀ k, k < m → w.cell? ⟨b, k, none⟩ = some (.pointer (some (A k)))) (h2 : ∀ k, k < m → w.cell? ⟨g, k, none⟩ = some (.pointer (some (A k)))) :
    Calls Ybad.prog 7 #[.slice (some ⟨b, 0, none⟩) m m, .slice (some ⟨g, 0, none⟩) m c] w fun e w' => e = .returned (.bool true) ∧ ∃ q, w' = w.drewN q := by
  have H1 : Hid _ := h1
  have H2 : Hid _ := h2
  clear h1 h2
  go_enter Ybad.func7, Ybad.ntmps7
  go_wp2_with fail
  go_loopw [13] (fun v wr => ∃ k q : Nat, k ≤ m ∧ v = .int .i64 k ∧ wr = w.drewN q) (fun v _ => m - (intOf v).toNat)
  case atStart => exact ⟨0, 0, Nat.zero_le _, rfl, rfl⟩
  case round =>
    obtain ⟨k, q, hk, rfl, e⟩ := hrel
    have he : Hid (wr = w.drewN q) := e
    by_cases hlt : k < m
    · have c1 : wr.cell? ⟨b, k, none⟩ = some (.pointer (some (A k))) := by rw [e]; exact H1.out k hlt
      have c2 : wr.cell? ⟨g, k, none⟩ = some (.pointer (some (A k))) := by rw [e]; exact H2.out k hlt
      clear e
      go_wp2_with fail
      go_quiet (fail)
      go_wp2_with fail
      exact ⟨⟨k + 1, q + nq, by omega, by go_num, by rw [he.out]; simp [World.drewN_drewN]⟩, by simp [intOf]; omega⟩
    · clear e
      go_wp2_with fail
      go_ret
      exact ⟨rfl, q, he.out⟩

/-- Where bucket i of n = 2^e, half of it h, lies. -/
def pos (n h i : Nat) : Nat := 2 * i % n + if h ≤ i then 1 else 0

theorem place_bits (e i : Nat) (he : 1 ≤ e) (he2 : e ≤ 20) (hi : i < 2 ^ e) :
    bits .and .i64 (bits .or .i64 ((i : Int) * 2) ((i : Int) / 2 ^ (e - 1))) ((2 : Int) ^ e - 1) = (pos (2 ^ e) (2 ^ (e - 1)) i : Nat) := by
  have hw : ∀ n : Int, 0 ≤ n → n < 2 ^ 62 → IntKind.i64.wrap n = n := fun n h0 h1 => by rw [IntKind.wrap_i64]; omega
  have hp : (2 : Nat) ^ e = 2 * 2 ^ (e - 1) := by
    obtain ⟨d, rfl⟩ : ∃ d, e = d + 1 := ⟨e - 1, by omega⟩
    rw [Nat.pow_succ]; simp; omega
  have h20 : (2 : Nat) ^ e ≤ 2 ^ 20 := Nat.pow_le_pow_right (by decide) he2
  have hpi : ((2 : Int) ^ (e - 1)) = ((2 ^ (e - 1) : Nat) : Int) := by simp
  have hdiv : (i : Int) / 2 ^ (e - 1) = ((i / 2 ^ (e - 1) : Nat) : Int) := by rw [hpi]; rfl
  generalize hh : (2 : Nat) ^ (e - 1) = h at *
  have hpos : 0 < h := by omega
  have hd : i / h = if h ≤ i then 1 else 0 := by
    split
    · rename_i hle
      exact Nat.div_eq_of_lt_le (by omega) (by omega)
    · exact Nat.div_eq_of_lt (by omega)
  have hlt : i / h < 2 := by rw [hd]; split <;> omega
  rw [hdiv]
  rw [bits_join .i64 62 (by decide) hw 1 _ _ (by omega) (by omega) (by omega) (by omega) (by omega) (by omega)]
  rw [bits_mask .i64 62 (by decide) hw e (by omega) _ (by omega) (by omega)]
  have hei : ((2 : Int) ^ e) = ((2 ^ e : Nat) : Int) := by simp
  rw [hei]
  unfold pos
  rw [hp, hd]
  have key : (i * 2 + if h ≤ i then 1 else 0) % (2 * h) = 2 * i % (2 * h) + if h ≤ i then 1 else 0 := by
    split
    · obtain ⟨r, rfl⟩ : ∃ r, i = h + r := ⟨i - h, by omega⟩
      have e1 : (h + r) * 2 + 1 = 2 * h + (2 * r + 1) := by omega
      have e2 : 2 * (h + r) = 2 * h + 2 * r := by omega
      rw [e1, e2, Nat.add_mod_left, Nat.add_mod_left, Nat.mod_eq_of_lt (by omega), Nat.mod_eq_of_lt (by omega)]
    · rw [Nat.mod_eq_of_lt (by omega), Nat.mod_eq_of_lt (by omega)]; omega
  rw [← key]
  simp
end Go.Proofs.YbulkeaqaDoor
