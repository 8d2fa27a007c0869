/- S6350A: settle, the walk of its first loop. -/
import Derived.Test.YbulkeamgSet2W
namespace Go.Proofs.Ybulkeamg
open Go.RowKit
set_option linter.unusedSimpArgs false

theorem info33 : (Yba.prog.info? 33).map (fun i => (i.zero, i.size, i.bytes)) = some (some (.agg #[.int .i32 0, .int .i32 0]), 2, 8) := by kernel_rfl

set_option maxHeartbeats 4000000 in
set_option maxRecDepth 100000 in
theorem settle_any (n : Nat) (m : Int) (p L : Nat) (FQ : Nat → Nat) (w0 w : World) (Bb : Nat) (B Bw cw : Nat → Nat) (base : Nat) (sA : Option Addr) (Bf cf : Nat) (hA : Ask n m p L FQ w0 w Bb B Bw cw base sA Bf) :
    Calls Yba.prog 6 #[.pointer (some ⟨Bb, 0, none⟩), .int .i64 p, .slice sA L cf] w fun e w' => e = .returned (.tuple #[]) ∧ Left n m p L FQ w w' Bb B := by
  have HA : Hid _ := hA
  have hn := hA.n1
  have hp := hA.p1
  have hl := hA.l1
  have e3 := hA.book.book.cell (k := 3) (by omega)
  rw [show bookF n m B 3 = .int .i64 0 from rfl] at e3
  have e6 := hA.book.book.cell (k := 6) (by omega)
  rw [show bookF n m B 6 = .slice (some ⟨B 2, 0, none⟩) n n from rfl] at e6
  have e8 := hA.book.book.cell (k := 8) (by omega)
  rw [show bookF n m B 8 = .int .i64 0 from rfl] at e8
  have e20 := hA.book.book.cell (k := 20) (by omega)
  rw [show bookF n m B 20 = .slice none 0 0 from rfl] at e20
  have e22 := hA.book.book.cell (k := 22) (by omega)
  rw [show bookF n m B 22 = .slice (some ⟨B 7, 0, none⟩) n n from rfl] at e22
  obtain ⟨H2, hR2, _, hd2⟩ := hA.book.reach
  have c0 := hR2.cell (k := p * 4) (by omega)
  have c1 := hR2.cell (k := p * 4 + 1) (by omega)
  have c2 := hR2.cell (k := p * 4 + 2) (by omega)
  rw [(hd2 p hp).1] at c0
  rw [(hd2 p hp).2.1] at c1
  rw [(hd2 p hp).2.2.1] at c2
  have t0 := hA.book.took.cell (k := p * 2) (by omega)
  have tf := hA.book.took.frozen (k := p * 2)
  have HR2 : Hid _ := (⟨hR2, hd2⟩ : _ ∧ _)
  clear hR2 hd2 hA
  go_enter Yba.func6, Yba.ntmps6
  go_upto_region 2 with (fail)
  go_quiet (fail)
  obtain ⟨nq0, rfl⟩ : ∃ x, x = nq := ⟨_, rfl⟩
  go_upto_region 3 with (fail)
  go_quiet (fail)
  go_upto_region 4 with (fail)
  go_region
  have hL := L1.start HA.out (w := (w.drewN (nq0 + nq + 1)).setCell ⟨B 7, p * 2, none⟩ (.int .i64 0)) (nq0 + nq + 1) rfl
  generalize (w.drewN (nq0 + nq + 1)).setCell ⟨B 7, p * 2, none⟩ (.int .i64 0) = w1 at hL ⊢
  have HL : Hid _ := hL
  clear hL e3 e6 e8 e20 e22 c0 c1 c2 t0 tf HR2
  obtain ⟨i33, hi, hz0, hz1, hz2⟩ := info_parts info33
  go_wp2_with fail
  go_loopw [8, 9, 10, 64] (fun vb vf ve v wr => ∃ (k : Nat) (vT : Value), k ≤ L ∧ v = .int .i64 k ∧ vb = .int .i64 0 ∧ vf = .int .i64 (loK p FQ k : Nat) ∧ ve = .int .i64 ((hiK p FQ k : Nat) + 1) ∧ L1 n m p FQ w wr Bb B k vT) (fun _ _ _ v _ => L - (intOf v).toNat)
  case atStart => exact ⟨0, _, Nat.zero_le _, rfl, rfl, rfl, rfl, HL.out⟩
  case round =>
    obtain ⟨k, vT, hk, rfl, rfl, rfl, rfl, hL1⟩ := hrel
    clear HL
    have H1 : Hid (L1 n m p FQ w wr Bb B k vT) := hL1
    obtain ⟨r0, r6, r20, f20, r22, r7, r2⟩ := hL1.reads HA.out
    obtain ⟨aT, cT, eT⟩ := own_form hL1.own
    subst eT
    have htl := tkn_len p FQ k
    have HR : Hid _ := r2
    clear hL1 r2
    by_cases hlt : k < L
    · obtain ⟨es, _⟩ := HA.out.at_ (by omega)
      subst es
      have hq := HA.out.q1 k hlt
      have c0 := r0 k hlt
      clear r0
      by_cases hqp : FQ k = p
      · have hqb : (((FQ k : Nat) : Int) != (p : Int)) = false := by simp [hqp]
        have Hqp : Hid (FQ k = p) := hqp
        clear hqp
        go_wp2_with fail
        exact ⟨⟨k + 1, _, by omega, by go_num, rfl, by rw [(lo_skip Hqp.out).1], by rw [(lo_skip Hqp.out).2.1], H1.out.skip Hqp.out⟩, by simp [intOf]; omega⟩
      · have hqb : (((FQ k : Nat) : Int) != (p : Int)) = true := by simp; omega
        have Hqp : Hid (¬ FQ k = p) := hqp
        clear hqp
        go_upto_region 10 with (at_builtin; refine wpList_append_own _ rfl _ _ 31 rfl w.heap.size 33 i33 (.agg #[.int .i32 0, .int .i32 0]) 2 8 Yba.underlying31 hi hz0 hz1 hz2 rfl (by decide) _ _ _ rfl (H1.out.own.alloc _) ⟨wr.heap.size, 0, none⟩ 1 1 [.int .i32 (FQ k), .int .i32 p] rfl rfl (cell_two_new _ _ _ _) (by simp [Value.oneCell']) (by unfold maxLen; omega) (by omega) (by have := H1.out.stay.size; simp; omega) ?_; intro v' w2 hown2 hg2 _; obtain ⟨a', c', ev⟩ := own_form hown2; subst ev; have rb2 := (H1.out.book.alloc _).grown hg2 (fun e => by have := H1.out.own.lt _ e.symm; have := HA.out.book.lowb; have := HA.out.book.size; omega); have d20 := rb2.cell (k := 20) (by omega); have g20 := rb2.frozen (k := 20); have HO : Hid _ := (⟨hown2, hg2⟩ : _ ∧ _); clear hown2 hg2 rb2)
        have lb := HA.out.book.lowb
        have l7 := HA.out.book.low 7 (by omega)
        have hsz := HA.out.book.size
        have hL3 := H1.out.step Hqp.out (by omega) (by omega) l7.2.2 HO.out.1 HO.out.2
        generalize w2.setCell ⟨Bb, 20, none⟩ (.slice a' ((tkn p FQ k).length + 1) c') = w3 at hL3 ⊢
        have H3 : Hid _ := hL3
        obtain ⟨_, s6, _, _, _, _, s2⟩ := hL3.reads HA.out
        obtain ⟨q0, q1, q2, _, _⟩ := s2 (FQ k) hq
        have hhi := hi_lt HA.out.p1 HA.out.n1 k (fun j hj => HA.out.q1 j (by omega))
        have hlo := lo_le p FQ k
        clear hL3 s2 lb l7 hsz r6 r20 f20 r22 r7 c0 d20 g20 HO
        go_upto_region 12 with (fail)
        go_region
        go_wp2_with fail
        exact ⟨⟨k + 1, _, by omega, by go_num, rfl, by simp only [loK]; congr 1; omega, by simp only [hiK]; congr 1; omega, H3.out.drewN 1⟩, by simp [intOf]; omega⟩
    · have ek : k = L := by omega
      subst ek
      have lb := HA.out.book.lowb
      have l7 := HA.out.book.low 7 (by omega)
      have hsz := HA.out.book.size
      have t1 := H1.out.took.cell (k := p * 2 + 1) (by omega)
      have tf1 := H1.out.took.frozen (k := p * 2 + 1)
      clear r0
      go_upto_region 14 with (fail)
      go_region
      have hS := (H1.out.drewN 1).done (by omega) l7.2.2
      have hlh := lo_le p FQ k
      go_step
      go_step
      exact settle2 HA.out hS rfl rfl (show hiK p FQ k + 1 = loK p FQ k + (hiK p FQ k + 1 - loK p FQ k) by omega)
end Go.Proofs.Ybulkeamg
