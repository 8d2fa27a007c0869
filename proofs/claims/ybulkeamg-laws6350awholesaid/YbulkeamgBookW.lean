/- S6350A: newQueryBook, the walk. -/
import Derived.Test.YbulkeamgBook
namespace Go.Proofs.Ybulkeamg
open Go.RowKit
set_option linter.unusedSimpArgs false

set_option maxHeartbeats 2000000 in
set_option maxRecDepth 100000 in
theorem book_any (n : Nat) (m : Int) (w : World) (hn : 0 < n) (hn2 : n ≤ 200) :
    Calls Yba.prog 5 #[.int .i64 n, .int .i64 m] w fun e w' => ∃ Bb B Bw cw base, e = .returned (.pointer (some ⟨Bb, 0, none⟩)) ∧ Book n m w w' Bb B Bw cw base n := by
  have h63 : IntKind.i64.wrap ((n : Int) + 63) = (n : Int) + 63 := by rw [IntKind.wrap_i64]; omega
  have h64 : IntKind.i64.wrap (((n : Int) + 63).tdiv 64) = ((n : Int) + 63) / 64 := by rw [Int.tdiv_eq_ediv_of_nonneg (by omega), IntKind.wrap_i64]; omega
  go_enter Yba.func5, Yba.ntmps5
  go_upto_region 1 with (fail)
  refine wp_region_any (by kernel_rfl) ?_
  refine wpAny_take (i := 0) (v := .int .i64 n) rfl (by kernel_rfl) (by kernel_rfl) (by kernel_rfl) (fun _ _ _ h => h) (Or.inl ⟨by rfl, ?_⟩) ?_
  · intro w; go_simp
  refine wpAny_take (i := 1) (v := .int .i64 n) rfl (by kernel_rfl) (by kernel_rfl) (by kernel_rfl) (fun _ _ _ h => h) (Or.inl ⟨by rfl, ?_⟩) ?_
  · intro w; go_simp
  refine wpAny_take (i := 2) (v := .int .i64 ((n : Int) + 63)) rfl (by kernel_rfl) (by kernel_rfl) (by kernel_rfl) (fun _ _ _ h => h) (Or.inl ⟨by rfl, ?_⟩) ?_
  · intro w; go_simp
  refine wpAny_take (i := 3) (v := .int .i64 (((n : Int) + 63) / 64)) rfl (by kernel_rfl) (by kernel_rfl) (by kernel_rfl) (fun _ _ _ h => h) (Or.inl ⟨by rfl, ?_⟩) ?_
  · intro w; go_simp
  refine wpAny_take (i := 4) (v := .int .i64 m) rfl (by kernel_rfl) (by kernel_rfl) (by kernel_rfl) (fun _ _ _ h => h) (Or.inl ⟨by rfl, ?_⟩) ?_
  · intro w; go_simp
  refine wpAny_take (i := 5) (v := .int .i64 n) rfl (by kernel_rfl) (by kernel_rfl) (by kernel_rfl) (fun _ _ _ h => h) (Or.inl ⟨by rfl, ?_⟩) ?_
  · intro w; go_simp
  refine wpAny_take (i := 7) (v := .int .i64 n) rfl (by kernel_rfl) (by kernel_rfl) (by kernel_rfl) (fun _ _ _ h => h) (Or.inl ⟨by rfl, ?_⟩) ?_
  · intro w; go_simp
  refine wpAny_take (i := 9) (v := .int .i64 n) rfl (by kernel_rfl) (by kernel_rfl) (by kernel_rfl) (fun _ _ _ h => h) (Or.inl ⟨by rfl, ?_⟩) ?_
  · intro w; go_simp
  refine wpAny_take (i := 11) (v := .int .i64 n) rfl (by kernel_rfl) (by kernel_rfl) (by kernel_rfl) (fun _ _ _ h => h) (Or.inl ⟨by rfl, ?_⟩) ?_
  · intro w; go_simp
  refine wpAny_take (i := 13) (v := .int .i64 n) rfl (by kernel_rfl) (by kernel_rfl) (by kernel_rfl) (fun _ _ _ h => h) (Or.inl ⟨by rfl, ?_⟩) ?_
  · intro w; go_simp
  refine wpAny_take (i := 15) (v := .int .i64 n) rfl (by kernel_rfl) (by kernel_rfl) (by kernel_rfl) (fun _ _ _ h => h) (Or.inl ⟨by rfl, ?_⟩) ?_
  · intro w; go_simp
  refine wpAny_take (i := 17) (v := .int .i64 n) rfl (by kernel_rfl) (by kernel_rfl) (by kernel_rfl) (fun _ _ _ h => h) (Or.inl ⟨by rfl, ?_⟩) ?_
  · intro w; go_simp
  refine wpAny_take (i := 19) (v := .int .i64 n) rfl (by kernel_rfl) (by kernel_rfl) (by kernel_rfl) (fun _ _ _ h => h) (Or.inl ⟨by rfl, ?_⟩) ?_
  · intro w; go_simp
  refine wpAny_take (i := 21) (v := .int .i64 n) rfl (by kernel_rfl) (by kernel_rfl) (by kernel_rfl) (fun _ _ _ h => h) (Or.inl ⟨by rfl, ?_⟩) ?_
  · intro w; go_simp
  refine wpAny_take (i := 23) (v := .int .i64 n) rfl (by kernel_rfl) (by kernel_rfl) (by kernel_rfl) (fun _ _ _ h => h) (Or.inl ⟨by rfl, ?_⟩) ?_
  · intro w; go_simp
  refine wpAny_congr (a' := AJ n m fun _ => undef) (L' := LJ fun _ => false) (by kernel_rfl) (by kernel_rfl) ?_
  refine makes_any (P := Yba.prog) w n szJ elJ tyJ zJ (AJ n m) LJ (AJ_put n m) (AJ_eval n m) LJ_set LJ_all LJ_get LJ_old LJ_new rfl ?_ ?_ ?_ ?_ (makeJ n (by omega)) ?_ w.drew (Stay.refl _ _ w).drew (fun _ => undef)
  · exact ten ⟨_, rfl, rfl, rfl, rfl, by simp⟩ ⟨_, rfl, rfl, rfl, rfl, by simp⟩ ⟨_, rfl, rfl, rfl, rfl, by simp⟩ ⟨_, rfl, rfl, rfl, rfl, by simp⟩ ⟨_, rfl, rfl, rfl, rfl, by simp⟩ ⟨_, rfl, rfl, rfl, rfl, by simp⟩ ⟨_, rfl, rfl, rfl, rfl, by simp⟩ ⟨_, rfl, rfl, rfl, rfl, by simp⟩ ⟨_, rfl, rfl, rfl, rfl, by simp⟩ ⟨_, rfl, rfl, rfl, rfl, by simp⟩
  · exact ⟨_, rfl, ten ⟨⟨6, .data⟩, by simp, rfl, rfl⟩ ⟨⟨8, .data⟩, by simp, rfl, rfl⟩ ⟨⟨10, .data⟩, by simp, rfl, rfl⟩ ⟨⟨12, .data⟩, by simp, rfl, rfl⟩ ⟨⟨14, .data⟩, by simp, rfl, rfl⟩ ⟨⟨16, .data⟩, by simp, rfl, rfl⟩ ⟨⟨18, .data⟩, by simp, rfl, rfl⟩ ⟨⟨20, .data⟩, by simp, rfl, rfl⟩ ⟨⟨22, .data⟩, by simp, rfl, rfl⟩ ⟨⟨24, .data⟩, by simp, rfl, rfl⟩⟩
  · exact ⟨_, rfl, ⟨25, .data⟩, by simp, rfl, rfl⟩
  · exact ⟨_, rfl, ⟨26, .data⟩, by simp, rfl, rfl⟩
  · intro X B w1 hM
    refine wpAny_congr (a' := AJ n m fun j => .slice (some ⟨B j, 0, none⟩) n n) (L' := LJ fun _ => true) (by simp only [AJ, hM.val 0 (by omega) rfl, hM.val 1 (by omega) rfl, hM.val 2 (by omega) rfl, hM.val 3 (by omega) rfl, hM.val 4 (by omega) rfl, hM.val 5 (by omega) rfl, hM.val 6 (by omega) rfl, hM.val 7 (by omega) rfl, hM.val 8 (by omega) rfl, hM.val 9 (by omega) rfl]) rfl ?_
    have HB : Hid _ := Book.start (m := m) hM
    clear hM
    refine wpAny_take (i := 25) (v := .agg (bookA n m B)) rfl (by kernel_rfl) (by kernel_rfl) (by kernel_rfl) (fun _ _ _ h => h) (Or.inl ⟨by rfl, ?_⟩) ?_
    · intro w; simp only [AJ]; go_simp; rfl
    refine wpAny_ready (rs := [26]) (by kernel_rfl) (by simp) ?_
    refine AllReady.cons rfl (fun K hK => ?_) AllReady.nil
    simp only [AJ]
    go_simp
    refine hK _ _ ?_
    clear hK K
    refine wpAny_take (i := 27) (v := .pointer (some ⟨w1.heap.size, 0, none⟩)) rfl (by kernel_rfl) (by kernel_rfl) (by kernel_rfl) (fun _ _ _ h => h) (Or.inl ⟨by rfl, ?_⟩) ?_
    · intro w; go_simp
    refine wpAny_done (by kernel_rfl) ?_ _
    generalize w1.heap.size = Bb at HB ⊢
    generalize w1.alloc (.cells (bookA n m B) 46) = w2 at HB ⊢
    clear w1
    go_wp2_with fail
    go_loopw [35] (fun v wr => ∃ (i : Nat) (Bw cw : Nat → Nat), i ≤ n ∧ v = .int .i64 i ∧ Book n m w wr Bb B Bw cw (Bb + 1) i) (fun v _ => n - (intOf v).toNat)
    case atStart => exact ⟨0, _, _, Nat.zero_le _, rfl, HB.out⟩
    case round =>
      obtain ⟨i, Bw, cw, hi, rfl, hB⟩ := hrel
      clear HB
      by_cases hlt : i < n
      · obtain ⟨H0, hR0, hz0⟩ := hB.holds
        have e4 := hB.book.cell (k := 4) (by omega)
        rw [show bookF n m B 4 = .slice (some ⟨B 0, 0, none⟩) n n from rfl] at e4
        have hC := nadd_any (B 0) i (n * 1) 42 H0 i wr hR0 (by omega) (hz0 i (by omega) hlt) (by omega)
        have HC : Hid _ := hC
        have HR : Hid _ := hB
        have HZ0 : Hid _ := hz0
        clear hC hR0 hz0 hB
        go_upto_region 6 with (go_at_call 9; refine Calls.mono HC.out ?_; rintro e w1 ⟨rfl, c1, hc1, R1, N1, S1, Z1⟩)
        have b1 := HR.out.book.stay S1 HR.out.book.lt (fun e => (HR.out.low 0 (by omega)).2.2 e.symm)
        obtain ⟨H2, hR2, hz2, hd2⟩ := HR.out.reach
        have r2 := hR2.stay S1 hR2.lt (HR.out.ne 2 0 (by omega) (by omega) (by omega))
        have e6 := b1.cell (k := 6) (by omega)
        rw [show bookF n m B 6 = .slice (some ⟨B 2, 0, none⟩) n n from rfl] at e6
        have HC2 : Hid _ := reset_any (B 2) (i * 4) (n * 4) 38 H2 0 (i / 64) 1 w1 r2 (by omega) (hz2 i (by omega) hlt) (by omega) (by omega) (by omega) (by omega) 1 (i / 64 + 1) (by omega) (by omega) (by omega)
        have H1 : Hid (Row w1 (B 0) (n * 1) 42 (upd H0 i (.slice (some ⟨wr.heap.size, 0, none⟩) (i / 64 + 1) c1)) ∧ Stay wr.heap.size (fun b => b = B 0) wr w1 ∧ w1.heap.size = wr.heap.size + 1 ∧ Row w1 Bb 27 46 (bookF n m B)) := ⟨R1, S1, Z1, b1⟩
        have HZ2 : Hid _ := (⟨hz2, hd2⟩ : _ ∧ _)
        clear R1 N1 S1 Z1 b1 hR2 r2 hz2 hd2 e4 HC
        go_upto_region 7 with (go_at_call 10; refine Calls.mono HC2.out ?_; rintro e w2 ⟨rfl, c2, hc2, hcm2, R2, N2, S2, Z2⟩)
        have b2 := H1.out.2.2.2.stay S2 H1.out.2.2.2.lt (fun e => (HR.out.low 2 (by omega)).2.2 e.symm)
        have e6' := b2.cell (k := 6) (by omega)
        rw [show bookF n m B 6 = .slice (some ⟨B 2, 0, none⟩) n n from rfl] at e6'
        have k0 := R2.cell (k := i * 4) (by omega)
        have k1 := R2.cell (k := i * 4 + 1) (by omega)
        have k2 := R2.cell (k := i * 4 + 2) (by omega)
        have k3 := R2.cell (k := i * 4 + 3) (by omega)
        unfold upd4 at k0 k1 k2 k3
        rw [upd_ne _ _ (by omega), upd_ne _ _ (by omega), upd_ne _ _ (by omega), upd_same] at k0
        rw [upd_ne _ _ (by omega), upd_ne _ _ (by omega), upd_same] at k1
        rw [upd_ne _ _ (by omega), upd_same] at k2
        rw [upd_same] at k3
        have HC3 : Hid _ := add_any (B 2) (i * 4) 0 (i / 64) 1 0 1 c2 w1.heap.size 0 i 0 0 w2 k0 k1 k2 k3 (by omega) (by omega) (by omega) (by omega) (by omega) (by omega) (by omega) hcm2 (by omega) (by omega) (by omega) (by omega) (by omega) (N2.cell (k := 0 + 0) (by omega)) N2.frozen
        have H2' : Hid (Row w2 (B 2) (n * 4) 38 (upd4 H2 (i * 4) 0 (i / 64) 1 (.slice (some ⟨w1.heap.size, 0, none⟩) 1 c2)) ∧ Row w2 w1.heap.size c2 35 (fun _ => .int .u64 0) ∧ Stay w1.heap.size (fun b => b = B 2) w1 w2 ∧ w2.heap.size = w1.heap.size + 1 ∧ Row w2 Bb 27 46 (bookF n m B)) := ⟨R2, N2, S2, Z2, b2⟩
        clear R2 N2 S2 Z2 b2 k0 k1 k2 k3 e6 HC2
        go_upto_region 8 with (go_at_call 11; refine Calls.mono HC3.out ?_; rintro e w3 ⟨rfl, q3, e3⟩; have E3 : Hid _ := e3; clear e3)
        have e3 := E3.out
        obtain ⟨H4, hR4, hz4⟩ := HR.out.queries
        have hsz := HR.out.size
        have s3 : Stay w1.heap.size (fun _ => False) w2 w3 := by rw [e3]; exact ((Stay.refl w1.heap.size _ w2).set _ (.inl (Nat.le_refl _))).drewN _
        have l4 := (HR.out.low 4 (by omega)).2.1
        have z1 := H1.out.2.2.1
        have z2 := H2'.out.2.2.2.1
        have r4 : Row w3 (B 4) (n * 9) 55 H4 := ((hR4.stay H1.out.2.1 hR4.lt (HR.out.ne 4 0 (by omega) (by omega) (by omega))).stay H2'.out.2.2.1 (by omega) (HR.out.ne 4 2 (by omega) (by omega) (by omega))).stay s3 (by omega) id
        have lb := HR.out.lowb.2
        have b3 : Row w3 Bb 27 46 (bookF n m B) := H2'.out.2.2.2.2.stay s3 (by omega) id
        have e9 := b3.cell (k := 9) (by omega)
        rw [show bookF n m B 9 = .slice (some ⟨B 4, 0, none⟩) n n from rfl] at e9
        have HC4 : Hid _ := reset_any (B 4) (i * 9 + 2) (n * 9) 55 H4 0 (i / 64) 1 w3 r4 (by omega) (hz4 i (by omega) hlt) (by omega) (by omega) (by omega) (by omega) 1 (i / 64 + 1) (by omega) (by omega) (by omega)
        have H3 : Hid (w3 = (w2.setCell ⟨w1.heap.size, 0 + 0, none⟩ (.int .u64 (bits .or .u64 0 ((2 ^ (i % 64) : Nat) : Int)))).drewN q3 ∧ Row w3 Bb 27 46 (bookF n m B)) := ⟨e3, b3⟩
        have HZ4 : Hid _ := hz4
        clear E3 e3 hsz s3 l4 z1 z2 r4 lb b3 hR4 hz4 e6' HC3
        go_upto_region 9 with (go_at_call 10; refine Calls.mono HC4.out ?_; rintro e w4 ⟨rfl, c4, hc4, hcm4, R4, N4, S4, Z4⟩)
        have b4 := H3.out.2.stay S4 H3.out.2.lt (fun e => (HR.out.low 4 (by omega)).2.2 e.symm)
        have e9' := b4.cell (k := 9) (by omega)
        rw [show bookF n m B 9 = .slice (some ⟨B 4, 0, none⟩) n n from rfl] at e9'
        have k0 := R4.cell (k := i * 9 + 2) (by omega)
        have k1 := R4.cell (k := i * 9 + 2 + 1) (by omega)
        have k2 := R4.cell (k := i * 9 + 2 + 2) (by omega)
        have k3 := R4.cell (k := i * 9 + 2 + 3) (by omega)
        unfold upd4 at k0 k1 k2 k3
        rw [upd_ne _ _ (by omega), upd_ne _ _ (by omega), upd_ne _ _ (by omega), upd_same] at k0
        rw [upd_ne _ _ (by omega), upd_ne _ _ (by omega), upd_same] at k1
        rw [upd_ne _ _ (by omega), upd_same] at k2
        rw [upd_same] at k3
        have HC5 : Hid _ := add_any (B 4) (i * 9 + 2) 0 (i / 64) 1 0 1 c4 w3.heap.size 0 i 0 0 w4 k0 k1 k2 k3 (by omega) (by omega) (by omega) (by omega) (by omega) (by omega) (by omega) hcm4 (by omega) (by omega) (by omega) (by omega) (by omega) (N4.cell (k := 0 + 0) (by omega)) N4.frozen
        have H4' : Hid (Row w4 (B 4) (n * 9) 55 (upd4 H4 (i * 9 + 2) 0 (i / 64) 1 (.slice (some ⟨w3.heap.size, 0, none⟩) 1 c4)) ∧ Stay w3.heap.size (fun b => b = B 4) w3 w4 ∧ w4.heap.size = w3.heap.size + 1) := ⟨R4, S4, Z4⟩
        clear R4 N4 S4 Z4 b4 k0 k1 k2 k3 e9 HC4
        go_wp2_with (go_at_call 11; refine Calls.mono HC5.out ?_; rintro e w5 ⟨rfl, q5, e5⟩; have E5 : Hid _ := e5; clear e5)
        refine ⟨⟨i + 1, updN Bw i w1.heap.size, updN cw i c2, by omega, by go_num, ?_⟩, by simp [intOf]; omega⟩
        exact HR.out.round hlt HZ0.out H1.out.1 H1.out.2.1 H1.out.2.2.1 HZ2.out.1 HZ2.out.2 H2'.out.1 H2'.out.2.1 H2'.out.2.2.1 H2'.out.2.2.2.1 hc2 hcm2 HZ4.out w3 H3.out.1 H4'.out.1 H4'.out.2.1 H4'.out.2.2 w5 _ E5.out
      · have ei : i = n := by omega
        subst ei
        go_wp2_with fail
        go_ret
        exact ⟨Bb, B, Bw, cw, Bb + 1, rfl, hB⟩
end Go.Proofs.Ybulkeamg
