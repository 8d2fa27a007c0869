/- S6350A: the law, its beginning. -/
import Derived.Test.YbulkeamgT0
namespace Go.Proofs.Ybulkeamg
open Go.RowKit
set_option linter.unusedSimpArgs false

theorem inf21 : (Yba.prog.info? 21).map (fun i => (i.zero, i.size, i.bytes)) = some (some (.int .i32 0), 1, 4) := by kernel_rfl
theorem make32 (n : Nat) (hn : n ≤ 65536) (w : World) :
    (Instr.makeSlice 24 (.int .i64 n) (.int .i64 n)).run Yba.prog w = .ok (.slice (some ⟨w.heap.size, 0, none⟩) n n) (w.alloc (.cells (madeCells #[.int .i32 0] (n * 1)) 21)) := by
  obtain ⟨i, hi, z0, z1, z2⟩ := info_parts inf21
  have := run_make (P := Yba.prog) w 24 21 i (.int .i32 0) Yba.underlying24 hi z0 .i64 .i64 n n (by omega) (by omega) (by rw [z2]; omega) (by omega)
  rw [z1] at this
  have e : (Value.int .i32 0).cells = #[.int .i32 0] := rfl
  rw [e] at this
  simpa using this

set_option maxHeartbeats 4000000 in
set_option maxRecDepth 100000 in
theorem law_main (a m pp : Int) (sR : Option Addr) (N cR rb ro n p : Nat) (z : Nat → Int) (FQ : Nat → Nat) (w : World) (hN : N ≤ 65536) (ha : 0 ≤ a ∧ a ≤ 65535) (hpp : 0 ≤ pp ∧ pp ≤ 65535) (hs : 0 < N → sR = some ⟨rb, ro, none⟩ ∧ rb < w.heap.size) (hnil : sR = none → N = 0)
    (hz : ∀ j, j < N → w.cell? ⟨rb, ro + j, none⟩ = some (.int .u16 (z j)) ∧ 0 ≤ z j ∧ z j ≤ 65535) (hn9 : (1 + a % 200 : Int) = n) (hp10 : pp % (n : Int) = p) (hfq : ∀ j, j < N → z j % (n : Int) = FQ j) :
    Calls Yba.prog 3 #[.int .u16 a, .int .i64 m, .int .u16 pp, .slice sR N cR] w fun e w' => e = .returned (.bool true) ∧ Below w.heap.size w w' := by
  have hn : n ≤ 200 := by omega
  have hn0 : 0 < n := by omega
  have hp : p < n := by
    have := Int.emod_lt_of_pos pp (show (0 : Int) < n by omega)
    omega
  have hq : ∀ j, j < N → FQ j < n := fun j hj => by
    have h1 := Int.emod_lt_of_pos (z j) (show (0 : Int) < n by omega)
    have h2 := hfq j hj
    omega
  have HZ : Hid _ := hz
  have HQ : Hid _ := hfq
  have HS : Hid _ := hs
  have HB : Hid _ := hq
  have HI : Hid _ := hnil
  have hmk := fun w => make32 N hN w
  have hnn : ¬ ((n : Int) = 0) := by omega
  clear hz hfq hs hq hnil
  go_enter Yba.func3, Yba.ntmps3
  go_upto_if 53 with (fail)
  rw [hp10]
  go_cut [11] (fun v wc => ∃ sA, v = .slice sA N N ∧ Stay w.heap.size (fun _ => False) w wc ∧ Sent wc sA N FQ w.heap.size)
  case first =>
    cases hsr : sR with
    | none =>
      have h0 := HI.out hsr
      subst hsr
      subst h0
      go_wp2_with fail
      go_meet
      case rel => exact ⟨none, rfl, Stay.refl _ _ w, .inl ⟨rfl, rfl⟩⟩
    | some aR =>
      subst hsr
      go_wp2_with fail
      have hS1 := (Stay.refl w.heap.size (fun _ => False) w).alloc (Nat.le_refl _) (.cells (madeCells #[.int .i32 0] N) 21)
      have hR1 := Row.new w (madeCells #[.int .i32 0] N) 21 (fun j => if j < 0 then .int .i32 (FQ j) else .int .i32 0) (fun j hj => by
        rw [size_madeCells] at hj
        simp [madeCells, hj, Nat.mod_one])
      rw [size_madeCells] at hR1
      generalize w.alloc (.cells (madeCells #[.int .i32 0] N) 21) = w1 at hS1 hR1 ⊢
      have H1 : Hid _ := (⟨hS1, hR1⟩ : _ ∧ _)
      clear hS1 hR1
      go_loopw [59] (fun v wr => ∃ k : Nat, k ≤ N ∧ v = .int .i64 k ∧ Stay w.heap.size (fun _ => False) w wr ∧ Row wr w.heap.size N 21 (fun j => if j < k then .int .i32 (FQ j) else .int .i32 0)) (fun v _ => N - (intOf v).toNat)
      case atStart => exact ⟨0, Nat.zero_le _, rfl, H1.out⟩
      case round =>
        obtain ⟨k, hk, rfl, hS2, hR2⟩ := hrel
        clear H1
        have H2 : Hid (Stay w.heap.size (fun _ => False) w wr ∧ Row wr w.heap.size N 21 (fun j => if j < k then .int .i32 (FQ j) else .int .i32 0)) := ⟨hS2, hR2⟩
        by_cases hlt : k < N
        · obtain ⟨es, _⟩ := HS.out (by omega)
          obtain rfl : aR = ⟨rb, ro, none⟩ := by simpa using es
          obtain ⟨c0, z0, z1⟩ := HZ.out k hlt
          have c0' := hS2.some c0
          have c1 := hR2.cell (k := k) hlt
          have cf := hR2.frozen (k := k)
          have hfk := HQ.out k hlt
          have hqk := HB.out k hlt
          have HK : Hid _ := hfk
          clear hmk hS2 hR2 c0 es hfk
          go_wp2_with fail
          have ew : wrap32 (z k % (n : Int)) = (FQ k : Nat) := by rw [HK.out]; unfold wrap32; omega
          rw [ew]
          refine ⟨⟨k + 1, by omega, by go_num, H2.out.1.set _ (.inl (Nat.le_refl _)), (H2.out.2.set _).congr (fun j hj => ?_)⟩, by simp [intOf]; omega⟩
          simp only [upd]
          by_cases e : j = k
          · subst e; rw [if_pos rfl, if_pos (by omega)]
          · rw [if_neg e]
            by_cases e2 : j < k
            · rw [if_pos e2, if_pos (by omega)]
            · rw [if_neg e2, if_neg (by omega)]
        · have ek : k = N := by omega
          subst ek
          clear hS2 hR2
          go_wp2_with fail
          go_meet
          case rel => exact ⟨_, rfl, H2.out.1, .inr ⟨rfl, H2.out.2.congr (fun j hj => by rw [if_pos hj])⟩⟩
  case rest =>
    obtain ⟨sA, rfl, hS1, hSent⟩ := hcut
    clear hmk
    go_step
    exact tail0 hN hn hn0 hp HB.out hS1 hSent
end Go.Proofs.Ybulkeamg
