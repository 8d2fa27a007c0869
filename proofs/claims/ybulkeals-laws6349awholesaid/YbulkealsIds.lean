/- (*index).appendIDs (function 9). -/
import Derived.Test.YbulkealsSeq
import Derived.Test.YbulkealsWalkA
namespace Go.Proofs.Ybulkeals
open Go.RowKit Go.MapKept Go.Maps Go.Sort Go.Shelf
set_option linter.unusedSimpArgs false

/-- The rows that hold the key s, each once, in some order. -/
def Holders (H : Nat → Nat → Bool) (s : ByteArray) (ts : List Nat) : Prop := ts.Nodup ∧ ∀ i, i ∈ ts ↔ i < 4 ∧ ∃ j, j < 4 ∧ s = kS j ∧ H i j = true

def inv (x : List UInt8) : Nat := if x = [112] then 0 else if x = [113] then 1 else if x = [114] then 2 else 3
theorem inv_iS {i : Nat} (h : i < 4) : inv (iS i).data.toList = i := by
  rcases lt4 h with rfl | rfl | rfl | rfl <;> simp [inv, iS]
theorem iS_size (i : Nat) : (iS i).size ≤ maxLen := by
  unfold maxLen iS; split <;> decide
theorem encStr_data (s : ByteArray) : encStr s.data.toList = .string s := by simp [encStr]

theorem set_list {g : ByteArray → Option Value} {H : Nat → Nat → Bool} {j : Nat} (hj : j < 4) (hg1 : ∀ i, i < 4 → g (iS i) = if H i j then some (.agg #[]) else none) (hg2 : ∀ u, (∀ i, i < 4 → u ≠ iS i) → g u = none)
    {ss : List (List UInt8)} (hn : ss.Nodup) (hm : ∀ x : List UInt8, x ∈ ss ↔ ∃ v, g ⟨x.toArray⟩ = some v) : ∃ ts, Holders H (kS j) ts ∧ ss.map encStr = ts.map (fun i => Value.string (iS i)) ∧ ts.length = ss.length := by
  have hx : ∀ x ∈ ss, ∃ i, i < 4 ∧ x = (iS i).data.toList ∧ H i j = true := by
    intro x hx
    obtain ⟨v, hv⟩ := (hm x).1 hx
    by_cases hu : ∃ i, i < 4 ∧ (⟨x.toArray⟩ : ByteArray) = iS i
    · obtain ⟨i, hi, e⟩ := hu
      refine ⟨i, hi, by rw [← e], ?_⟩
      rw [e, hg1 i hi] at hv
      cases hH : H i j with
      | true => rfl
      | false => rw [hH] at hv; simp at hv
    · rw [hg2 _ fun i hi e => hu ⟨i, hi, e⟩] at hv; cases hv
  refine ⟨ss.map inv, ⟨?_, ?_⟩, ?_, by simp⟩
  · rw [List.Nodup, List.pairwise_map]
    refine List.Pairwise.imp_of_mem ?_ hn
    intro a b ha hb hne e
    obtain ⟨i, hi, rfl, _⟩ := hx a ha
    obtain ⟨i', hi', rfl, _⟩ := hx b hb
    rw [inv_iS hi, inv_iS hi'] at e
    subst e; exact hne rfl
  · intro i
    rw [List.mem_map]
    constructor
    · rintro ⟨x, hxs, rfl⟩
      obtain ⟨i, hi, rfl, hH⟩ := hx x hxs
      rw [inv_iS hi]
      exact ⟨hi, j, hj, rfl, hH⟩
    · rintro ⟨hi, j', hj', e, hH⟩
      obtain rfl := kS_inj hj hj' e
      refine ⟨(iS i).data.toList, (hm _).2 ⟨.agg #[], ?_⟩, inv_iS hi⟩
      show g (iS i) = _
      rw [hg1 i hi, hH]; rfl
  · rw [List.map_map]
    refine List.map_congr_left fun x hxs => ?_
    obtain ⟨i, hi, rfl, _⟩ := hx x hxs
    show encStr _ = Value.string (iS (inv _))
    rw [inv_iS hi, encStr_data]

theorem keys_seq {w : World} {sb Bm : Nat} {g : ByteArray → Option Value} {H : Nat → Nat → Bool} {j : Nat} (hj : j < 4) (hg : MapIs w sb g) (hg1 : ∀ i, i < 4 → g (iS i) = if H i j then some (.agg #[]) else none) (hg2 : ∀ u, (∀ i, i < 4 → u ≠ iS i) → g u = none)
    (hBm : Bm < w.heap.size) (hm : w.cell? ⟨Bm, 0, none⟩ = some (.map (some sb))) :
    ∃ N, N ≤ 16 ∧ ∀ W, Below w.heap.size w W → SeqStops Fence.wide (6 - 1) Yba.prog 18 #[.pointer (some ⟨Bm, 0, none⟩)] encStr (fun ss => ∃ ts, Holders H (kS j) ts ∧ ss.map encStr = ts.map (fun i => Value.string (iS i)) ∧ ts.length = ss.length) (fun _ => True) N W := by
  have hsup : ∀ s v, g s = some v → ∃ i, i < 4 ∧ s = iS i := by
    intro s v hv
    refine Classical.byContradiction fun hno => ?_
    rw [hg2 s fun i hi e => hno ⟨i, hi, e⟩] at hv; cases hv
  obtain ⟨n, D, hown, hsz, hhas⟩ := hg.owns (fun s v hv => by obtain ⟨i, _, rfl⟩ := hsup s v hv; exact iS_size i) [iS 0, iS 1, iS 2, iS 3] (fun s v hv => by
    obtain ⟨i, hi, rfl⟩ := hsup s v hv
    rcases lt4 hi with rfl | rfl | rfl | rfl <;> simp) (by simp)
  refine ⟨Maps.size D, hsz, fun W hW => ?_⟩
  have hown' : W.ownsMap Yba.prog 9 anyElem sb n D := by
    have hbl := hown.lt
    obtain ⟨es, clock, hb, Ft, hs, hD⟩ := hown
    exact ⟨es, clock, (hW.block sb hbl).trans hb, Ft, hs, hD⟩
  intro l J Jx W' hW' hJ hJx hY h0
  refine (keys18_stops Fence.wide (6 - 1) trivial rfl (by decide) Bm sb n D W (Nat.lt_of_lt_of_le hBm hW.size) ((hW.cell (p := ⟨Bm, 0, none⟩) hBm).trans hm) hown' l J Jx W' hW' hJ hJx hY h0).mono ?_
  rintro e w' ⟨hv, ⟨ss, ⟨hn, hmem⟩, hj'⟩ | hr⟩
  · exact ⟨hv, .inl ⟨ss, set_list hj hg1 hg2 hn (fun x => (hmem x).trans (hhas x)), hj'⟩⟩
  · exact ⟨hv, .inr hr⟩

theorem appendSeq_any (n₁ Bm k N : Nat) (v : Value) (xs : List Value) (S : List (List UInt8) → Prop) (w : World)
    (hrow : w.ownsRow n₁ 9 1 v k xs) (hn₁ : n₁ ≤ w.heap.size) (hk : k + N ≤ 1000000000)
    (hseq : ∀ W, Below w.heap.size w W → SeqStops Fence.wide (6 - 1) Yba.prog 18 #[.pointer (some ⟨Bm, 0, none⟩)] encStr S (fun _ => True) N W) :
    Calls Yba.prog 14 #[v, .func (.func 18) #[] #[.pointer (some ⟨Bm, 0, none⟩)]] w fun e W' => ∃ v' ss, e = .returned v' ∧ S ss ∧ W'.ownsRow n₁ 9 1 v' (k + ss.length) (xs ++ ss.map encStr) ∧ Below n₁ w W' :=
  (callsIn_wide (n := 6)).1 (appendSeq_in Fence.wide 6 trivial trivial rfl (by decide) n₁ Bm k v xs S N w hrow hn₁ hk hseq)

set_option maxHeartbeats 1000000 in
theorem ids_one {w : World} {B X bh bo bm : Nat} {fo fm fh : ByteArray → Option Value} {H : Nat → Nat → Bool} {M : Nat → Bool} (h : IdxAt w B X bh bo bm fo fm H M fh) (s : ByteArray) {i : Nat} (hf : fo s = some (.string (iS i)))
    (n₁ k : Nat) (a0 : Option Addr) (c0 : Nat) (xs : List Value) (hrow : w.ownsRow n₁ 9 1 (.slice a0 k c0) k xs) (hn₁ : n₁ ≤ w.heap.size) (hk : k ≤ 65536) :
    Calls Yba.prog 9 #[.pointer (some ⟨X, 0, none⟩), .slice a0 k c0, .string s] w fun e W' => ∃ v', e = .returned v' ∧ W'.ownsRow n₁ 9 1 v' (k + 1) (xs ++ [.string (iS i)]) ∧ Below n₁ w W' := by
  obtain ⟨hc0, hc1, hc2⟩ := cells3 h.cell
  obtain ⟨i0, hi, hz0, hz1, hz2⟩ := info_parts info9
  have mo := h.mo
  clear h
  go_enter Yba.func9, Yba.ntmps9
  go_wp2_with (first
    | (at_lookup; refine wpList_lookup_m _ rfl _ _ 39 true rfl 9 9 Yba.underlying39 Yba.underlying9 (zero9 _) bo fo rfl mo s rfl (.tuple #[.string (iS i), .bool true]) (by rw [hf]; rfl) ?_)
    | (at_builtin; refine wpList_append_own _ rfl _ _ 23 rfl n₁ 9 i0 (.string ⟨#[]⟩) 1 16 Yba.underlying23 hi hz0 hz1 hz2 rfl (by decide) _ _ _ rfl (hrow.alloc _) ⟨w.heap.size, 0, none⟩ 1 1 [.string (iS i)] rfl rfl (cell_one_new _ _ _) (by simp [Value.oneCell']) (by unfold maxLen; omega) (by omega) (by simp; omega) ?_; intro v' w1 hown' hgrow _))
  go_ret
  exact ⟨_, rfl, hown', ((Below.refl _ w).alloc hn₁ _).grown hgrow (by simp; omega) (fun j e => (hrow.lt j e).1)⟩

set_option maxHeartbeats 1000000 in
theorem ids_seq {w : World} {B X bh bo bm : Nat} {fo fm fh : ByteArray → Option Value} {H : Nat → Nat → Bool} {M : Nat → Bool} (h : IdxAt w B X bh bo bm fo fm H M fh) (s : ByteArray) (hf : fo s = none) (mv : Option Nat) (hm : (fm s).getD (.map none) = .map mv)
    (n₁ k N : Nat) (a0 : Option Addr) (c0 : Nat) (xs : List Value) (hrow : w.ownsRow n₁ 9 1 (.slice a0 k c0) k xs) (hn₁ : n₁ ≤ w.heap.size) (hk : k ≤ 65536) (hN : N ≤ 16) (S : List (List UInt8) → Prop)
    (hseq : ∀ W, Below (w.heap.size + 1) (w.alloc (.cells #[.map mv] 49)) W → SeqStops Fence.wide (6 - 1) Yba.prog 18 #[.pointer (some ⟨w.heap.size, 0, none⟩)] encStr S (fun _ => True) N W) :
    Calls Yba.prog 9 #[.pointer (some ⟨X, 0, none⟩), .slice a0 k c0, .string s] w fun e W' => ∃ v' ss, e = .returned v' ∧ S ss ∧ W'.ownsRow n₁ 9 1 v' (k + ss.length) (xs ++ ss.map encStr) ∧ Below n₁ w W' := by
  obtain ⟨hc0, hc1, hc2⟩ := cells3 h.cell
  have mo := h.mo
  have mm := h.mm
  have Hm : Hid ((fm s).getD (.map none) = .map mv) := hm
  have Hf : Hid (fo s = none) := hf
  have Hs : Hid (∀ W, Below (w.heap.size + 1) (w.alloc (.cells #[.map mv] 49)) W → SeqStops Fence.wide (6 - 1) Yba.prog 18 #[.pointer (some ⟨w.heap.size, 0, none⟩)] encStr S (fun _ => True) N W) := hseq
  clear h hm hseq hf
  go_enter Yba.func9, Yba.ntmps9
  go_wp2_with (first
    | (at_lookup; refine wpList_lookup_m _ rfl _ _ 39 true rfl 9 9 Yba.underlying39 Yba.underlying9 (zero9 _) bo fo rfl mo s rfl (.tuple #[.string ⟨#[]⟩, .bool false]) (by rw [Hf.out]; rfl) ?_)
    | (at_lookup; refine wpList_lookup_m _ rfl _ _ 40 false rfl 9 49 Yba.underlying40 Yba.underlying9 (zero49 _) bm fm rfl mm s rfl (.map mv) (by exact Hm.out) ?_)
    | (go_at_call 15; refine (keys_any _ _).mono ?_; rintro e w' ⟨rfl, rfl⟩)
    | (go_at_call 14; refine (appendSeq_any n₁ w.heap.size k N _ xs S _ (hrow.alloc _) (by simp; omega) (by omega) (by intro W hW; exact Hs.out W (by simpa using hW))).mono ?_; rintro e w' ⟨v', ss, rfl, hS, hr, hb⟩))
  go_ret
  exact ⟨_, _, rfl, hS, hr, ((Below.refl _ w).alloc hn₁ _).trans hb⟩
end Go.Proofs.Ybulkeals
