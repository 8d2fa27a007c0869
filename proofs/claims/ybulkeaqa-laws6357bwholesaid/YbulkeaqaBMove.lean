/- S6357B: Map.move. -/
import Derived.Test.YbulkeaqaBDone
import Derived.Deep.RegionHeld3
namespace Go.Proofs.Ybulkeaqa
open Go.RowKit Go.Shelf
set_option linter.unusedSimpArgs false
attribute [local go_sem] Oper.semAt_some

theorem or_i64_nat (a b : Nat) (ha : a < 4611686018427387904) (hb : b < 4611686018427387904) : bits .or .i64 (a : Int) (b : Int) = ((a ||| b : Nat) : Int) := by
  have hx : a ||| b < 2 ^ 62 := Nat.or_lt_two_pow (by omega) (by omega)
  have h1 : (BitVec.ofInt 64 (a : Int)).toNat = a := by
    rw [BitVec.ofInt_natCast, BitVec.toNat_ofNat]; exact Nat.mod_eq_of_lt (by omega)
  have h2 : (BitVec.ofInt 64 (b : Int)).toNat = b := by
    rw [BitVec.ofInt_natCast, BitVec.toNat_ofNat]; exact Nat.mod_eq_of_lt (by omega)
  show IntKind.i64.wrap ((BitVec.ofInt 64 (a : Int) ||| BitVec.ofInt 64 (b : Int)).toNat : Int) = _
  rw [BitVec.toNat_or, h1, h2, IntKind.wrap_i64]
  omega

theorem wrap_m {m : Nat} (h : m < 1024) : wrap64 (m : Int) = m := by unfold wrap64; omega
theorem wrap_m3 {m : Nat} (h : m < 1024) : IntKind.i64.wrap (m : Int) = m := by rw [IntKind.wrap_i64]; omega
theorem or_base {i newN m : Nat} (h0 : 0 < newN) (h1 : newN ≤ 100) (h : m < 1024) : bits .or .i64 ((i : Int) % (newN : Int)) (m : Int) = ((i % newN ||| m : Nat) : Int) := by
  have := or_i64_nat (i % newN) m (by have := Nat.mod_lt i h0; omega) (by omega)
  rw [← this]; rfl
theorem destOf_or {base sp k : Nat} (h : ¬ sp = 0) : base ||| (k &&& sp) = destOf base sp k := by unfold destOf; rw [if_neg h]

set_option maxHeartbeats 2000000 in
set_option maxRecDepth 100000 in
theorem move_any (Bm Bc Bn Bo newN oldN next len ovc mig i e1 sp : Nat) (w : World) (hR : Row w Bm 18 53 (mapF Bc Bn Bo newN oldN next len ovc mig)) (hi : i < oldN) (ho : oldN ≤ 100) (hn : newN ≤ 100) (hn0 : 0 < newN) (h1 : newN = 2 ^ e1) (he1 : e1 ≤ 10)
    (hsp : bits .andNot .u64 ((newN : Int) - 1) ((oldN : Int) - 1) = sp) (ovn : Nat → Nat → Nat) (s0 : St) (Fn Fo : Nat → Value) (ovo : Nat → Nat) (es : List Ent) (hovc : s0.ovc = ovc) (hF : Fam w Bn newN Fn ovn s0.L) (hRo : Row w Bo (oldN * 25) 39 Fo) (hCo : Chain w Bo (i * 25) Fo ovo es) (hes : ∀ e ∈ es, e.Ok) (hles : es.length ≤ 300000) (hob : s0.ovc ≤ 1000000) (hcb : s0.cl ≤ 500000) (hspb : sp < 1024) (hlb : ∀ j, j < newN → (s0.L j).length + es.length ≤ 1000000)
    (hcc : w.cell? ⟨Bc, 0, none⟩ = some (.int .i64 (s0.cl : Nat))) (hcf : w.frozen? ⟨Bc, 0, none⟩ = false) (hdst : ∀ e ∈ es, destOf (i % newN) sp e.k < newN)
    (hmM : ¬ Mine Bn newN ovn s0.L Bm) (hmC : ¬ Mine Bn newN ovn s0.L Bc) (hmO : ¬ Mine Bn newN ovn s0.L Bo) (hmV : ∀ t, 1 ≤ t → t < nbk es.length → ¬ Mine Bn newN ovn s0.L (ovo t) ∧ ovo t ≠ Bm ∧ ovo t ≠ Bc) (hd1 : Bm ≠ Bc) (hd2 : Bm ≠ Bo) (hd3 : Bc ≠ Bo) (tgo : Nat → Nat) (htg : ∀ j, j < oldN → Fo (j * 25) = .int .u8 (tgo j)) (hnx : next ≤ oldN) (hmig : mig ≤ 1000) :
    Calls Yba.prog 17 #[.pointer (some ⟨Bm, 0, none⟩), .int .i64 i] w fun e w' => e = .returned (.tuple #[]) ∧ ∃ nx F ov, Swept (fun j => decide (j = i) || (tgo j == 1)) oldN next nx ∧ Row w' Bm 18 53 (mapN Bc Bn Bo newN oldN nx len (stQ (i % newN) sp s0 es es.length).ovc (mig + 1)) ∧ Row w' Bo (oldN * 25) 39 (mvF Fo i) ∧ Fam w' Bn newN F ov (stQ (i % newN) sp s0 es es.length).L ∧ (∀ j t, j < newN → live (stQ (i % newN) sp s0 es es.length).L j t → (live s0.L j t ∧ ov j t = ovn j t) ∨ w.heap.size ≤ ov j t) ∧ w'.cell? ⟨Bc, 0, none⟩ = some (.int .i64 ((stQ (i % newN) sp s0 es es.length).cl : Nat)) ∧ w'.frozen? ⟨Bc, 0, none⟩ = false ∧ Stay w.heap.size (fun b => Mine Bn newN ovn s0.L b ∨ b = Bm ∨ b = Bc ∨ b = Bo) w w' := by
  have hlt := hR.lt
  have HD : Hid (Fam w Bn newN Fn ovn s0.L ∧ Row w Bo (oldN * 25) 39 Fo ∧ Chain w Bo (i * 25) Fo ovo es ∧ w.cell? ⟨Bc, 0, none⟩ = some (.int .i64 (s0.cl : Nat)) ∧ w.frozen? ⟨Bc, 0, none⟩ = false) := ⟨hF, hRo, hCo, hcc, hcf⟩
  have HM : Hid (¬ Mine Bn newN ovn s0.L Bm ∧ ¬ Mine Bn newN ovn s0.L Bc ∧ ¬ Mine Bn newN ovn s0.L Bo ∧ (∀ t, 1 ≤ t → t < nbk es.length → ¬ Mine Bn newN ovn s0.L (ovo t) ∧ ovo t ≠ Bm ∧ ovo t ≠ Bc) ∧ Bm ≠ Bc ∧ Bm ≠ Bo ∧ Bc ≠ Bo ∧ s0.ovc = ovc ∧ (∀ e ∈ es, e.Ok) ∧ (∀ e ∈ es, destOf (i % newN) sp e.k < newN)) := ⟨hmM, hmC, hmO, hmV, hd1, hd2, hd3, hovc, hes, hdst⟩
  have HLB : Hid (s0.ovc ≤ 1000000 ∧ ∀ j, j < newN → (s0.L j).length + es.length ≤ 1000000) := ⟨hob, hlb⟩
  have HTG : Hid ((∀ j, j < oldN → Fo (j * 25) = .int .u8 (tgo j)) ∧ next ≤ oldN ∧ mig ≤ 1000) := ⟨htg, hnx, hmig⟩
  clear htg hnx hmig
  have HCB : Hid (s0.cl ≤ 500000 ∧ sp < 1024) := ⟨hcb, hspb⟩
  clear hob hlb hcb hspb hF hRo hCo hcc hcf hmM hmC hmO hmV hd1 hd2 hd3 hovc hes hdst
  have HR : Hid (Row w Bm 18 53 (mapF Bc Bn Bo newN oldN next len ovc mig)) := hR
  have HA : Hid _ := tat_any Bm 6 oldN Bo i (w.alloc (.cells #[.pointer (some ⟨Bm, 0, none⟩)] 43)) (tabO (hR.alloc _)) hi (by omega)
  have hwn : IntKind.u64.wrap ((newN : Int) - 1) = (newN : Int) - 1 := by rw [IntKind.wrap_u64]; omega
  have hwo : IntKind.u64.wrap ((oldN : Int) - 1) = (oldN : Int) - 1 := by rw [IntKind.wrap_u64]; omega
  have hin : IntKind.i64.wrap ((newN : Int) - 1) = (newN : Int) - 1 := by rw [IntKind.wrap_i64]; omega
  have hio : IntKind.i64.wrap ((oldN : Int) - 1) = (oldN : Int) - 1 := by rw [IntKind.wrap_i64]; omega
  have H1 : Hid (newN = 2 ^ e1 ∧ e1 ≤ 10) := ⟨h1, he1⟩
  clear hR h1 he1
  refine (callsIn_wide (n := 8)).1 ?_
  refine callsIn_of_wp_marks Yba.func17 rfl trivial ?_ rfl
  refine wpIn_wide.2 ?_
  simp only [Yba.ntmps17, List.size_toArray, List.length_cons, List.length_nil, Nat.reduceAdd, Nat.reduceSub, Array.replicate_succ, Array.replicate_zero, List.push_toArray, List.append_toArray, List.nil_append, List.cons_append]
  go_upto_region 2 with (go_at_call 24; refine Calls.mono HA.out ?_; rintro e w2 ⟨rfl, rfl⟩)
  clear HA
  have R1 := HR.out.alloc (.cells #[.pointer (some ⟨Bm, 0, none⟩)] 43)
  have b1 : (w.alloc (.cells #[.pointer (some ⟨Bm, 0, none⟩)] 43)).cell? ⟨w.heap.size, 0, none⟩ = some (.pointer (some ⟨Bm, 0, none⟩)) := (Row.new w #[.pointer (some ⟨Bm, 0, none⟩)] 43 (fun _ => .pointer (some ⟨Bm, 0, none⟩)) (fun k hk => by
    have : k = 0 := by simpa using hk
    subst this; rfl)).cell (by simp)
  have s1 : (w.alloc (.cells #[.pointer (some ⟨Bm, 0, none⟩)] 43)).heap.size = w.heap.size + 1 := by simp
  have S1 : Stay w.heap.size (fun _ => False) w (w.alloc (.cells #[.pointer (some ⟨Bm, 0, none⟩)] 43)) := (Stay.refl _ _ w).alloc (Nat.le_refl _) _
  generalize w.alloc (.cells #[.pointer (some ⟨Bm, 0, none⟩)] 43) = w1 at R1 b1 s1 S1 ⊢
  have HL : Hid (w1.drew.cell? ⟨Bm, 2, none⟩ = some (.int .i64 newN) ∧ (w1.drew.alloc (.cells #[.int .u64 0] 24)).cell? ⟨Bm, 2, none⟩ = some (.int .i64 newN)) := ⟨(tabB (R1.drewN 1)).n0, (tabB ((R1.drewN 1).alloc _)).n0⟩
  have HO : Hid (w1.drew.cell? ⟨Bm, 6, none⟩ = some (.int .i64 oldN) ∧ (w1.drew.alloc (.cells #[.int .u64 0] 24)).cell? ⟨Bm, 6, none⟩ = some (.int .i64 oldN)) := ⟨(tabO (R1.drewN 1)).n0, (tabO ((R1.drewN 1).alloc _)).n0⟩
  have HS1 : Hid _ := (⟨R1, s1, S1⟩ : _ ∧ _ ∧ _)
  clear R1 s1 S1
  have b1a : (w1.alloc (.cells #[.int .u64 0] 24)).cell? ⟨w.heap.size, 0, none⟩ = some (.pointer (some ⟨Bm, 0, none⟩)) := ((Stay.refl w1.heap.size (fun _ => False) w1).alloc (Nat.le_refl _) _).some b1
  have zr := Row.new w1 #[.int .u64 0] 24 (fun _ => .int .u64 0) (fun k hk => by
    have : k = 0 := by simpa using hk
    subst this; rfl)
  have zc := zr.cell (k := 0) (by simp)
  have zf := zr.frozen (k := 0)
  clear zr
  go_cut [5] from 15 to 27 (fun v wc => v = .pointer (some ⟨w1.heap.size, 0, none⟩) ∧ ∃ q, wc = (w1.alloc (.cells #[.int .u64 sp] 24)).drewN q)
  case first =>
    have k2 : w1.cell? ⟨Bm, 2, none⟩ = some (.int .i64 newN) := HL.out.1
    have k6 : w1.cell? ⟨Bm, 6, none⟩ = some (.int .i64 oldN) := HO.out.1
    refine wp_region_noPanic ?_
    go_region_held (fun w' => w'.cell? ⟨w.heap.size, 0, none⟩ = some (.pointer (some ⟨Bm, 0, none⟩)) ∧ w'.cell? ⟨Bm, 2, none⟩ = some (.int .i64 newN) ∧ w'.cell? ⟨Bm, 6, none⟩ = some (.int .i64 oldN)) (go_keep) (first
      | (go_at_call 15; refine Calls.mono (len_any Bm 2 newN _ (by simp [*])) ?_; rintro e w2 ⟨rfl, rfl⟩)
      | (go_at_call 15; refine Calls.mono (len_any Bm 6 oldN _ (by simp [*])) ?_; rintro e w2 ⟨rfl, rfl⟩))
    all_goals
      refine NoPanic.normal ?_
      go_wp2_with fail
      go_meet
      case rel => exact ⟨rfl, 1, by first | rfl | (rw [hsp]; rfl) | (rw [hin, hio, hwn, hwo, hsp]; rfl)⟩
  case rest =>
    obtain ⟨rfl, q2, ew⟩ := hcut
    rename World => w2
    have R2 : Row w2 Bm 18 53 (mapF Bc Bn Bo newN oldN next len ovc mig) := by rw [ew]; exact (HS1.out.1.alloc _).drewN q2
    have z2 : w2.heap.size = w1.heap.size + 1 := by rw [ew]; show (w1.alloc _).heap.size = _; simp
    have S2 : Stay w1.heap.size (fun _ => False) w1 w2 := by rw [ew]; exact ((Stay.refl _ _ w1).alloc (Nat.le_refl _) _).drewN q2
    have p2 : w2.cell? ⟨w1.heap.size, 0, none⟩ = some (.int .u64 sp) := by
      rw [ew]
      have zr := Row.new w1 #[.int .u64 sp] 24 (fun _ => .int .u64 sp) (fun k hk => by
        have : k = 0 := by simpa using hk
        subst this; rfl)
      exact zr.cell (k := 0) (by simp)
    have b2 := S2.some b1
    clear ew b1 b1a zc zf HL HO
    have HLN : Hid _ := len_any Bm 2 newN w2 (tabB R2).n0
    have HIX : Hid _ := index_any i e1 newN w2 (by omega) H1.out.2 H1.out.1
    have HAL : Hid _ := fun q => allocate_any Bm 2 newN Bn (i % newN) ((w2.alloc (.cells #[.int .i64 ((i % newN : Nat) : Int)] 3)).drewN q) (tabB ((R2.alloc _).drewN q))
    have HR2 : Hid _ := (⟨R2, z2, S2⟩ : _ ∧ _ ∧ _)
    clear R2 z2 S2
    go_upto_region 4 with (first
      | (go_at_call 15; refine Calls.mono HLN.out ?_; rintro e w' ⟨rfl, rfl⟩)
      | (go_at_call 14; refine Calls.mono HIX.out ?_; rintro e w' ⟨rfl, rfl⟩))
    have cb : (w2.alloc (.cells #[.int .i64 ((i : Int) % (newN : Int))] 3)).cell? ⟨w2.heap.size, 0, none⟩ = some (.int .i64 ((i : Int) % (newN : Int))) := (Row.new w2 #[.int .i64 ((i : Int) % (newN : Int))] 3 (fun _ => .int .i64 ((i : Int) % (newN : Int))) (fun k hk => by
        have : k = 0 := by simpa using hk
        subst this; rfl)).cell (k := 0) (by simp)
    have S3 : Stay w2.heap.size (fun _ => False) w2 (w2.alloc (.cells #[.int .i64 ((i : Int) % (newN : Int))] 3)) := (Stay.refl _ _ w2).alloc (Nat.le_refl _) _
    have R3 := HR2.out.1.alloc (.cells #[.int .i64 ((i : Int) % (newN : Int))] 3)
    have z3 : (w2.alloc (.cells #[.int .i64 ((i : Int) % (newN : Int))] 3)).heap.size = w2.heap.size + 1 := by simp
    generalize w2.alloc (.cells #[.int .i64 ((i : Int) % (newN : Int))] 3) = w3 at cb S3 R3 z3 ⊢
    have b3 := S3.some b2
    have p3 := S3.some p2
    have HAL2 : Hid _ := fun q => allocate_any Bm 2 newN Bn (i % newN) (w3.drewN q) (tabB (R3.drewN q))
    have HR3 : Hid _ := (⟨R3, z3, S3⟩ : _ ∧ _ ∧ _)
    clear b2 p2 HAL HLN HIX S3 R3 z3
    refine wp_region_noPanic ?_
    go_quiet ((go_at_call 25; exact Calls.quiet_of_same (Calls.mono (HAL2.out _) (fun e w' h => ⟨h.1, h.2.symm⟩))))
    refine NoPanic.normal ?_
    go_wp2_with (go_at_call 26; refine Calls.mono (entries_any _ _) ?_; rintro e w' ⟨rfl, rfl⟩)
    have hsz3 : (w3.drewN nq).heap.size = w3.heap.size := rfl
    obtain ⟨w4, hw4⟩ : ∃ w4, (w3.drewN nq).alloc (.cells #[.pointer (some ⟨Bo, i * 25, none⟩)] 37) = w4 := ⟨_, rfl⟩
    rw [hw4]
    -- what lies in w4
    have S4 : Stay w3.heap.size (fun _ => False) w3 w4 := by rw [← hw4]; exact ((Stay.refl _ _ w3).drewN nq).alloc (Nat.le_refl _) _
    have z4 : w4.heap.size = w3.heap.size + 1 := by rw [← hw4]; simp
    have T3 := ((HS1.out.2.2.next HR2.out.2.2).next HR3.out.2.2).next S4
    have HT : Hid (Stay w.heap.size (fun _ => False) w w4) := T3
    have hz1 := HS1.out.2.1
    have hz2 := HR2.out.2.1
    have hz3 := HR3.out.2.1
    have F4 : Fam w4 Bn newN Fn ovn s0.L := HD.out.1.on fun b hb => T3.block b (HD.out.1.lt hb) id
    have M4 : Row w4 Bm 18 53 (mapF Bc Bn Bo newN oldN next len ovc mig) := HR3.out.1.stay S4 HR3.out.1.lt id
    have O4 : Row w4 Bo (oldN * 25) 39 Fo := HD.out.2.1.stay T3 HD.out.2.1.lt id
    have C4 : Chain w4 Bo (i * 25) Fo ovo es := ⟨HD.out.2.2.1.head, fun t h1 h2 => (HD.out.2.2.1.ovs t h1 h2).stay T3 (HD.out.2.2.1.ovs t h1 h2).lt id, HD.out.2.2.1.ne, HD.out.2.2.1.inj⟩
    have c4 := T3.some HD.out.2.2.2.1
    have cf4 : w4.frozen? ⟨Bc, 0, none⟩ = false := (World.frozen?_of_block (T3.block Bc (World.block_lt_of_cell? w _ HD.out.2.2.2.1) id)).trans HD.out.2.2.2.2
    have hBc := World.block_lt_of_cell? w _ HD.out.2.2.2.1
    have b4 := S4.some b3
    have p4 := S4.some p3
    have a4 := S4.some cb
    have i4 : w4.cell? ⟨w3.heap.size, 0, none⟩ = some (.pointer (some ⟨Bo, i * 25, none⟩)) ∧ w4.frozen? ⟨w3.heap.size, 0, none⟩ = false := by
      have zr := Row.new (w3.drewN nq) #[.pointer (some ⟨Bo, i * 25, none⟩)] 37 (fun _ => .pointer (some ⟨Bo, i * 25, none⟩)) (fun k hk => by
        have : k = 0 := by simpa using hk
        subst this; rfl)
      rw [hw4] at zr
      exact ⟨zr.cell (k := 0) (by simp), zr.frozen⟩
    have hnew : ∀ b, w.heap.size ≤ b → ¬ Mine Bn newN ovn s0.L b := fun b hb hm => by have := HD.out.1.lt hm; omega
    have H4 : Hid (Row w4 Bm 18 53 (mapF Bc Bn Bo newN oldN next len ovc mig) ∧ Row w4 Bo (oldN * 25) 39 Fo ∧ Chain w4 Bo (i * 25) Fo ovo es ∧ Fam w4 Bn newN Fn ovn s0.L ∧ w4.cell? ⟨Bc, 0, none⟩ = some (.int .i64 (s0.cl : Nat)) ∧ w4.frozen? ⟨Bc, 0, none⟩ = false) := ⟨M4, O4, C4, F4, c4, cf4⟩
    have HB4 : Hid _ := (⟨b4, p4, a4, i4⟩ : _ ∧ _ ∧ _ ∧ _)
    have HZ : Hid (Bc < w.heap.size ∧ w1.heap.size = w.heap.size + 1 ∧ w2.heap.size = w1.heap.size + 1 ∧ w3.heap.size = w2.heap.size + 1 ∧ w4.heap.size = w3.heap.size + 1 ∧ ∀ b, w.heap.size ≤ b → ¬ Mine Bn newN ovn s0.L b) := ⟨hBc, hz1, hz2, hz3, z4, hnew⟩
    clear S4 z4 T3 hz1 hz2 hz3 F4 M4 O4 C4 c4 cf4 hBc b4 p4 a4 i4 hnew b3 p3 cb hw4 hsz3
    have HOLD : Hid (∀ (W : World) (F : Nat → Value) (ov : Nat → Nat → Nat) (L : Nat → List Ent), Grow w4 W Bn newN ovn s0.L (Xs Bm Bc w3.heap.size) F ov L → Row W Bo (oldN * 25) 39 Fo ∧ Chain W Bo (i * 25) Fo ovo es) := fun W F ov L hG => by
      obtain ⟨zc, z1, z2, z3, z4, hnew⟩ := HZ.out
      refine ⟨(hG.stay.block Bo H4.out.2.1.lt (fun e => e.elim HM.out.2.2.1 (fun e => ?_))).trans H4.out.2.1, ⟨H4.out.2.2.1.head, fun t h1 h2 => (hG.stay.block (ovo t) (H4.out.2.2.1.ovs t h1 h2).lt (fun e => e.elim (HM.out.2.2.2.1 t h1 h2).1 (fun e => ?_))).trans (H4.out.2.2.1.ovs t h1 h2), H4.out.2.2.1.ne, H4.out.2.2.1.inj⟩⟩
      · have h1 := HM.out.2.2.2.2
        have h3 := HD.out.2.1.lt
        rcases e with e | e | e
        · exact h1.2.1 e.symm
        · exact h1.2.2.1 e.symm
        · omega
      · have h3 := (HD.out.2.2.1.ovs t h1 h2).lt
        have h4 := HM.out.2.2.2.1 t h1 h2
        rcases e with e | e | e
        · exact h4.2.1 e
        · exact h4.2.2 e
        · omega
    refine (wpIn_wide (n := 8)).1 ?_
    refine range_box (n := 8) (gf := 29) (lb := #[.pointer (some ⟨w3.heap.size, 0, none⟩)]) (by omega) rfl (enters_of Yba.func29 (by kernel_rfl) rfl) w3.heap.size es.length ?_ (fun q => #[.pointer (some ⟨blk Bo ovo (q / 8), off (i * 25) (q / 8), none⟩), .int .i64 (q % 8 : Nat)]) (fun _ => rfl)
      (Inv w4 Bm Bc w3.heap.size Bn Bo newN oldN next len mig ovn s0 (i % newN) sp es) (Inv.own _ _ _ _ _ _ _ _ _ _ _ _ _ _ _ _ ?_) ?_ ?_ ?_
      (fun q t => (((t.setIfInBounds 42 (.pointer (some ⟨blk Bo ovo (q / 8), off (i * 25) (q / 8), none⟩))).setIfInBounds 43 (.int .i64 (q % 8 : Nat))).setIfInBounds 7 (.pointer (some ⟨blk Bo ovo (q / 8), off (i * 25) (q / 8), none⟩))).setIfInBounds 8 (.int .i64 (q % 8 : Nat))) ?assign ?body ?iter ?done
    case assign =>
      intro l q W K hK
      gi_wp2
      exact hK
    case body =>
      rintro l q W hl ⟨F, ov, hG, hM, hc, hcf⟩ hq
      simp only [List.setIfInBounds_toArray, List.set_cons_succ, List.set_cons_zero]
      obtain ⟨zc, z1, z2, z3, z4, hnew⟩ := HZ.out
      have keep : ∀ b k v, b < w4.heap.size → ¬ Mine Bn newN ovn s0.L b → ¬ Xs Bm Bc w3.heap.size b → w4.cell? ⟨b, k, none⟩ = some v → W.cell? ⟨b, k, none⟩ = some v := fun b k v hb h1 h2 h3 => by
        rw [hG.stay.cell b k hb (fun e => e.elim h1 h2)]; exact h3
      have cm := keep w.heap.size 0 _ (by omega) (hnew _ (Nat.le_refl _)) (by unfold Xs; omega) HB4.out.1
      have cs := keep w1.heap.size 0 _ (by omega) (hnew _ (by omega)) (by unfold Xs; omega) HB4.out.2.1
      have ca := keep w2.heap.size 0 _ (by omega) (hnew _ (by omega)) (by unfold Xs; omega) HB4.out.2.2.1
      have mixed : Yba.prog.follows .mixedOrders = true := by kernel_rfl
      have hqn : q / 8 < nbk es.length := by unfold nbk; rw [if_neg (by omega)]; omega
      have OW : Row W Bo (oldN * 25) 39 Fo := (hG.stay.block Bo H4.out.2.1.lt (fun e => e.elim HM.out.2.2.1 (fun e => by
        have h1 := HM.out.2.2.2.2; have h2 := H4.out.2.1.lt; have h3 := HD.out.2.1.lt; rcases e with e | e | e
        · exact h1.2.1 e.symm
        · exact h1.2.2.1 e.symm
        · omega))).trans H4.out.2.1
      have CW : Chain W Bo (i * 25) Fo ovo es := ⟨H4.out.2.2.1.head, fun t h1 h2 => (hG.stay.block (ovo t) (H4.out.2.2.1.ovs t h1 h2).lt (fun e => e.elim (HM.out.2.2.2.1 t h1 h2).1 (fun e => by
        have h3 := (HD.out.2.2.1.ovs t h1 h2).lt; have h4 := HM.out.2.2.2.1 t h1 h2; rcases e with e | e | e
        · exact h4.2.1 e
        · exact h4.2.2 e
        · omega))).trans (H4.out.2.2.1.ovs t h1 h2), H4.out.2.2.1.ne, H4.out.2.2.1.inj⟩
      have hio25 : i * 25 + 25 ≤ oldN * 25 := by omega
      have e0 := CW.cell OW hio25 hqn (k := q % 8) (by omega)
      have e1' := CW.cell OW hio25 hqn (k := 8 + q % 8) (by omega)
      have e2' := CW.cell OW hio25 hqn (k := 16 + q % 8) (by omega)
      rw [bcell_t _ _ _ (by omega), show 8 * (q / 8) + q % 8 = q by omega] at e0
      rw [bcell_k _ _ _ (by omega), show 8 * (q / 8) + q % 8 = q by omega, ← Nat.add_assoc] at e1'
      rw [bcell_v _ _ _ (by omega), show 8 * (q / 8) + q % 8 = q by omega, ← Nat.add_assoc] at e2'
      have hr8 : q % 8 < 8 := by omega
      have HG : Hid _ := (⟨hG, hM, hc, hcf⟩ : _ ∧ _ ∧ _ ∧ _)
      have HW : Hid _ := (⟨OW, CW⟩ : _ ∧ _)
      have HKB : Hid (ky es q < 18446744073709551616) := by have h9 : q < es.length := hq; have := (HM.out.2.2.2.2.2.2.2.2.1 _ (List.getElem_mem h9)).k1; rw [ent_at h9] at this; exact this
      have HBB : Hid (blk Bo ovo (q / 8) < w4.heap.size ∧ ¬ Mine Bn newN ovn s0.L (blk Bo ovo (q / 8)) ∧ ¬ Bc = blk Bo ovo (q / 8)) := by
        unfold blk
        by_cases h0 : q / 8 = 0
        · rw [if_pos h0]; exact ⟨H4.out.2.1.lt, HM.out.2.2.1, HM.out.2.2.2.2.2.2.1⟩
        · rw [if_neg h0]; exact ⟨(H4.out.2.2.1.ovs _ (by omega) hqn).lt, (HM.out.2.2.2.1 _ (by omega) hqn).1, fun e => (HM.out.2.2.2.1 _ (by omega) hqn).2.2 e.symm⟩
      generalize blk Bo ovo (q / 8) = bb at e0 e1' e2' HBB ⊢
      generalize off (i * 25) (q / 8) = oo at e0 e1' e2' ⊢
      generalize hr : q % 8 = r at e0 e1' e2' hr8 ⊢
      have HQ : Hid (q % 8 = r) := hr
      clear hG hM hc hcf OW CW keep zc z1 z2 z3 z4 hnew hr
      by_cases hs0 : sp = 0
      · have hs0' : ((sp : Int) != 0) = false := by simp [hs0]
        have HS0 : Hid (sp = 0) := hs0
        clear hs0
        have hTab := fun u => tabB (HG.out.2.1.drewN u)
        have hil : i % newN < newN := Nat.mod_lt _ hn0
        have HAT : Hid _ := tat_any Bm 2 newN Bn (i % newN) W.drew (hTab 1) hil (by omega)
        have HIN : Hid _ := insert_any Bn (newN * 25) (i % newN * 25) F (ov (i % newN)) ((stQ (i % newN) sp s0 es q).L (i % newN)) ⟨tg es q, ky es q, vl es q⟩ W.drew (HG.out.1.fam.row.drewN 1) (by omega) ((HG.out.1.fam.drewN 1).ch _ hil) (HG.out.1.fam.ok _ hil) (by have h1 := (stQ_bound (i % newN) sp s0 es q (by omega)).2.2 (i % newN); have h2 := HLB.out.2 _ hil; omega)
        clear hTab
        gi_wp2
        have hSW : (fun w' : World => w'.cell? ⟨w.heap.size, 0, none⟩ = some (.pointer (some ⟨Bm, 0, none⟩)) ∧ w'.cell? ⟨bb, oo + r, none⟩ = some (.int .u8 (tg es q : Nat)) ∧ w'.cell? ⟨bb, oo + 8 + r, none⟩ = some (.int .u64 (ky es q : Nat)) ∧ w'.cell? ⟨bb, oo + 16 + r, none⟩ = some (.int .i64 (vl es q : Nat))) W.drew := ⟨cm, e0, e1', e2'⟩
        refine region_round l _ mixed ?_ ?_ ?_
        · simp
        · rintro ⟨a9, w9, h9⟩
          simp [Exit.then, Exit.inBlock] at h9
          obtain ⟨h10, _⟩ := h9
          cases h10
        refine wpAny_of_held (S := fun w' : World => w'.cell? ⟨w.heap.size, 0, none⟩ = some (.pointer (some ⟨Bm, 0, none⟩)) ∧ w'.cell? ⟨bb, oo + r, none⟩ = some (.int .u8 (tg es q : Nat)) ∧ w'.cell? ⟨bb, oo + 8 + r, none⟩ = some (.int .u64 (ky es q : Nat)) ∧ w'.cell? ⟨bb, oo + 16 + r, none⟩ = some (.int .i64 (vl es q : Nat))) _ _ _ _ ?_
        show wpAnyH _ _ _ _ _ _ _ _ W.drew
        refine wpAnyH_take (i := 0) (v := .pointer (some ⟨Bm, 0, none⟩)) rfl (by kernel_rfl) (by kernel_rfl) (by kernel_rfl) (fun _ _ _ h => h) (Or.inl ⟨by rfl, ?_⟩) hSW ?_
        · rintro w' ⟨k1, k2, k3, k4⟩; go_simp
        refine wpAnyH_take (i := 1) (v := .pointer (some ⟨Bm, 0, none⟩)) rfl (by kernel_rfl) (by kernel_rfl) (by kernel_rfl) (fun _ _ _ h => h) (Or.inl ⟨by rfl, ?_⟩) hSW ?_
        · rintro w' ⟨k1, k2, k3, k4⟩; go_simp
        refine wpAnyH_take (i := 2) (v := .pointer (some ⟨Bm, 2, none⟩)) rfl (by kernel_rfl) (by kernel_rfl) (by kernel_rfl) (fun _ _ _ h => h) (Or.inl ⟨by rfl, ?_⟩) hSW ?_
        · rintro w' ⟨k1, k2, k3, k4⟩; go_simp
        refine wpAnyH_take (i := 3) (v := .int .i64 ((i : Int) % (newN : Int))) rfl (by kernel_rfl) (by kernel_rfl) (by kernel_rfl) (fun _ _ _ h => h) (Or.inl ⟨by rfl, ?_⟩) hSW ?_
        · rintro w' ⟨k1, k2, k3, k4⟩; go_simp
        refine wpAnyH_take (i := 5) (v := .pointer (some ⟨bb, oo, none⟩)) rfl (by kernel_rfl) (by kernel_rfl) (by kernel_rfl) (fun _ _ _ h => h) (Or.inl ⟨by rfl, ?_⟩) hSW ?_
        · rintro w' ⟨k1, k2, k3, k4⟩; go_simp
        refine wpAnyH_take (i := 6) (v := .int .i64 r) rfl (by kernel_rfl) (by kernel_rfl) (by kernel_rfl) (fun _ _ _ h => h) (Or.inl ⟨by rfl, ?_⟩) hSW ?_
        · rintro w' ⟨k1, k2, k3, k4⟩; go_simp
        refine wpAnyH_take (i := 7) (v := .pointer (some ⟨bb, oo, none⟩)) rfl (by kernel_rfl) (by kernel_rfl) (by kernel_rfl) (fun _ _ _ h => h) (Or.inl ⟨by rfl, ?_⟩) hSW ?_
        · rintro w' ⟨k1, k2, k3, k4⟩; go_simp
        refine wpAnyH_take (i := 8) (v := .pointer (some ⟨bb, oo, none⟩)) rfl (by kernel_rfl) (by kernel_rfl) (by kernel_rfl) (fun _ _ _ h => h) (Or.inl ⟨by rfl, ?_⟩) hSW ?_
        · rintro w' ⟨k1, k2, k3, k4⟩; go_simp
        refine wpAnyH_take (i := 9) (v := .pointer (some ⟨bb, oo + r, none⟩)) rfl (by kernel_rfl) (by kernel_rfl) (by kernel_rfl) (fun _ _ _ h => h) (Or.inl ⟨by rfl, ?_⟩) hSW ?_
        · rintro w' ⟨k1, k2, k3, k4⟩; go_simp; intro h; omega
        refine wpAnyH_take (i := 10) (v := .int .u8 (tg es q : Nat)) rfl (by kernel_rfl) (by kernel_rfl) (by kernel_rfl) (fun _ _ _ h => h) (Or.inl ⟨by rfl, ?_⟩) hSW ?_
        · rintro w' ⟨k1, k2, k3, k4⟩; go_simp
        refine wpAnyH_take (i := 11) (v := .pointer (some ⟨bb, oo, none⟩)) rfl (by kernel_rfl) (by kernel_rfl) (by kernel_rfl) (fun _ _ _ h => h) (Or.inl ⟨by rfl, ?_⟩) hSW ?_
        · rintro w' ⟨k1, k2, k3, k4⟩; go_simp
        refine wpAnyH_take (i := 12) (v := .int .i64 r) rfl (by kernel_rfl) (by kernel_rfl) (by kernel_rfl) (fun _ _ _ h => h) (Or.inl ⟨by rfl, ?_⟩) hSW ?_
        · rintro w' ⟨k1, k2, k3, k4⟩; go_simp
        refine wpAnyH_take (i := 13) (v := .pointer (some ⟨bb, oo, none⟩)) rfl (by kernel_rfl) (by kernel_rfl) (by kernel_rfl) (fun _ _ _ h => h) (Or.inl ⟨by rfl, ?_⟩) hSW ?_
        · rintro w' ⟨k1, k2, k3, k4⟩; go_simp
        refine wpAnyH_take (i := 14) (v := .pointer (some ⟨bb, oo + 8, none⟩)) rfl (by kernel_rfl) (by kernel_rfl) (by kernel_rfl) (fun _ _ _ h => h) (Or.inl ⟨by rfl, ?_⟩) hSW ?_
        · rintro w' ⟨k1, k2, k3, k4⟩; go_simp
        refine wpAnyH_take (i := 15) (v := .pointer (some ⟨bb, oo + 8 + r, none⟩)) rfl (by kernel_rfl) (by kernel_rfl) (by kernel_rfl) (fun _ _ _ h => h) (Or.inl ⟨by rfl, ?_⟩) hSW ?_
        · rintro w' ⟨k1, k2, k3, k4⟩; go_simp; intro h; omega
        refine wpAnyH_take (i := 16) (v := .int .u64 (ky es q : Nat)) rfl (by kernel_rfl) (by kernel_rfl) (by kernel_rfl) (fun _ _ _ h => h) (Or.inl ⟨by rfl, ?_⟩) hSW ?_
        · rintro w' ⟨k1, k2, k3, k4⟩; go_simp
        refine wpAnyH_take (i := 17) (v := .pointer (some ⟨bb, oo, none⟩)) rfl (by kernel_rfl) (by kernel_rfl) (by kernel_rfl) (fun _ _ _ h => h) (Or.inl ⟨by rfl, ?_⟩) hSW ?_
        · rintro w' ⟨k1, k2, k3, k4⟩; go_simp
        refine wpAnyH_take (i := 18) (v := .int .i64 r) rfl (by kernel_rfl) (by kernel_rfl) (by kernel_rfl) (fun _ _ _ h => h) (Or.inl ⟨by rfl, ?_⟩) hSW ?_
        · rintro w' ⟨k1, k2, k3, k4⟩; go_simp
        refine wpAnyH_take (i := 19) (v := .pointer (some ⟨bb, oo, none⟩)) rfl (by kernel_rfl) (by kernel_rfl) (by kernel_rfl) (fun _ _ _ h => h) (Or.inl ⟨by rfl, ?_⟩) hSW ?_
        · rintro w' ⟨k1, k2, k3, k4⟩; go_simp
        refine wpAnyH_take (i := 20) (v := .pointer (some ⟨bb, oo + 16, none⟩)) rfl (by kernel_rfl) (by kernel_rfl) (by kernel_rfl) (fun _ _ _ h => h) (Or.inl ⟨by rfl, ?_⟩) hSW ?_
        · rintro w' ⟨k1, k2, k3, k4⟩; go_simp
        refine wpAnyH_take (i := 21) (v := .pointer (some ⟨bb, oo + 16 + r, none⟩)) rfl (by kernel_rfl) (by kernel_rfl) (by kernel_rfl) (fun _ _ _ h => h) (Or.inl ⟨by rfl, ?_⟩) hSW ?_
        · rintro w' ⟨k1, k2, k3, k4⟩; go_simp; intro h; omega
        refine wpAnyH_take (i := 22) (v := .int .i64 (vl es q : Nat)) rfl (by kernel_rfl) (by kernel_rfl) (by kernel_rfl) (fun _ _ _ h => h) (Or.inl ⟨by rfl, ?_⟩) hSW ?_
        · rintro w' ⟨k1, k2, k3, k4⟩; go_simp
        refine wpAnyH_ready (rs := [4]) (by kernel_rfl) (by simp) ?_
        refine AllReadyH.cons rfl (fun K hK => ?_) AllReadyH.nil
        go_simp
        refine Calls.mono HAT.out ?_
        rintro e w' ⟨rfl, rfl⟩
        refine hK.out _ _ hSW (fun _ => ?_)
        clear hK K
        refine wpAnyH_ready (rs := [23]) (by kernel_rfl) (by simp) ?_
        refine AllReadyH.cons rfl (fun K hK => ?_) AllReadyH.nil
        go_simp
        refine Calls.mono HIN.out ?_
        rintro e w5 ⟨rfl, F2, ov2, hPut⟩
        have hkeep : ∀ b k v, b < w4.heap.size → ¬ Mine Bn newN ovn s0.L b → W.cell? ⟨b, k, none⟩ = some v → w5.cell? ⟨b, k, none⟩ = some v := fun b k v hb hm hv => (World.cell?_of_block (a := ⟨b, k, none⟩) ((HG.out.1.drewN 1).far hil hPut hb hm)).trans hv
        obtain ⟨zc, z1, z2, z3, z4, hnew⟩ := HZ.out
        have hS5 : (fun w' : World => w'.cell? ⟨w.heap.size, 0, none⟩ = some (.pointer (some ⟨Bm, 0, none⟩)) ∧ w'.cell? ⟨bb, oo + r, none⟩ = some (.int .u8 (tg es q : Nat)) ∧ w'.cell? ⟨bb, oo + 8 + r, none⟩ = some (.int .u64 (ky es q : Nat)) ∧ w'.cell? ⟨bb, oo + 16 + r, none⟩ = some (.int .i64 (vl es q : Nat))) w5 :=
          ⟨hkeep _ _ _ (by omega) (hnew _ (Nat.le_refl _)) cm, hkeep _ _ _ HBB.out.1 HBB.out.2.1 e0, hkeep _ _ _ HBB.out.1 HBB.out.2.1 e1', hkeep _ _ _ HBB.out.1 HBB.out.2.1 e2'⟩
        refine hK.out _ _ hS5 (fun _ => ?_)
        clear hK K
        refine wpAnyH_done (by kernel_rfl) ?_ _
        have cm5 := hS5.1
        have HP : Hid _ := hPut
        have M5 : Row w5 Bm 18 53 (mapF Bc Bn Bo newN oldN next len (stQ (i % newN) sp s0 es q).ovc mig) := ((HG.out.1.drewN 1).far hil hPut H4.out.1.lt HM.out.1).trans HG.out.2.1
        have k14 : w5.cell? ⟨Bm, 14, none⟩ = some (.int .i64 ((stQ (i % newN) sp s0 es q).ovc : Nat)) := M5.cell (by omega)
        have f14 := M5.frozen (k := 14)
        clear hPut hS5 hSW hkeep e0 e1' e2' cm ca cs zc z1 z2 z3 z4 hnew M5
        by_cases hch : 0 < ((stQ (i % newN) sp s0 es q).L (i % newN)).length ∧ ((stQ (i % newN) sp s0 es q).L (i % newN)).length % 8 = 0
        · have hcb : decide (0 < ((stQ (i % newN) sp s0 es q).L (i % newN)).length ∧ ((stQ (i % newN) sp s0 es q).L (i % newN)).length % 8 = 0) = true := decide_eq_true hch
          have HCH : Hid _ := hch
          clear hch
          rw [hcb]
          gi_wp2
          obtain ⟨zc, z1, z2, z3, z4, hnew⟩ := HZ.out
          have hq9 : q < es.length := hq
          have ed : destOf (i % newN) sp es[q].k = i % newN := by unfold destOf; rw [if_pos HS0.out]
          have hp9 : Put W.drew w5 Bn (newN * 25) (destOf (i % newN) sp es[q].k * 25) F (ov (destOf (i % newN) sp es[q].k)) ((stQ (i % newN) sp s0 es q).L (destOf (i % newN) sp es[q].k)) es[q] F2 ov2 := by rw [ed, ent_at hq9]; exact HP.out
          have hw9 : wrap64 (((stQ (i % newN) sp s0 es q).ovc : Int) + 1) = ((stQ (i % newN) sp s0 es q).ovc : Int) + 1 := by
            have h1 := (stQ_bound (i % newN) sp s0 es q (by omega)).1
            have h2 := HLB.out.1
            unfold wrap64; omega
          rw [hw9]
          have hcl : W.drew.cell? ⟨Bc, 0, none⟩ = some (.int .i64 ((stQ (i % newN) sp s0 es q).cl + (if sp = 0 then 0 else 1) : Nat)) := by rw [if_pos HS0.out, Nat.add_zero]; exact HG.out.2.2.1
          have fin := round_end (W := W.drew) hq9 HM.out.2.2.2.2.2.2.2.2.1 (by rw [ed]; exact hil) H4.out.1.lt (by omega) (by omega) HM.out.1 HM.out.2.1 (hnew _ (by omega)) HM.out.2.2.2.2.1 (by omega) (HG.out.1.drewN 1) (HG.out.2.1.drewN 1) hcl HG.out.2.2.2 hp9 (W2 := w5.setCell ⟨Bm, 14, none⟩ (.int .i64 (((stQ (i % newN) sp s0 es q).ovc : Int) + 1))) (.inr ⟨by rw [ed]; exact HCH.out, rfl⟩)
          exact ⟨⟨fin.1.size, fin.1.same⟩, ⟨fin.2.1.1, fin.2.1.2⟩, fin.2.2⟩
        · have hcb : decide (0 < ((stQ (i % newN) sp s0 es q).L (i % newN)).length ∧ ((stQ (i % newN) sp s0 es q).L (i % newN)).length % 8 = 0) = false := decide_eq_false hch
          have HCH : Hid _ := hch
          clear hch
          rw [hcb]
          gi_wp2
          obtain ⟨zc, z1, z2, z3, z4, hnew⟩ := HZ.out
          have hq9 : q < es.length := hq
          have ed : destOf (i % newN) sp es[q].k = i % newN := by unfold destOf; rw [if_pos HS0.out]
          have hp9 : Put W.drew w5 Bn (newN * 25) (destOf (i % newN) sp es[q].k * 25) F (ov (destOf (i % newN) sp es[q].k)) ((stQ (i % newN) sp s0 es q).L (destOf (i % newN) sp es[q].k)) es[q] F2 ov2 := by rw [ed, ent_at hq9]; exact HP.out
          have hcl : W.drew.cell? ⟨Bc, 0, none⟩ = some (.int .i64 ((stQ (i % newN) sp s0 es q).cl + (if sp = 0 then 0 else 1) : Nat)) := by rw [if_pos HS0.out, Nat.add_zero]; exact HG.out.2.2.1
          have fin := round_end (W := W.drew) hq9 HM.out.2.2.2.2.2.2.2.2.1 (by rw [ed]; exact hil) H4.out.1.lt (by omega) (by omega) HM.out.1 HM.out.2.1 (hnew _ (by omega)) HM.out.2.2.2.2.1 (by omega) (HG.out.1.drewN 1) (HG.out.2.1.drewN 1) hcl HG.out.2.2.2 hp9 (W2 := w5) (.inl ⟨by rw [ed]; exact HCH.out, rfl⟩)
          exact ⟨⟨fin.1.size, fin.1.same⟩, ⟨fin.2.1.1, fin.2.1.2⟩, fin.2.2⟩
      · have hs0' : ((sp : Int) != 0) = true := by simp; omega
        have HS0 : Hid (¬ sp = 0) := hs0
        have km : W.cell? ⟨Bm, 0, none⟩ = some (.func (.func 6) #[] #[.pointer (some ⟨Bc, 0, none⟩)]) := HG.out.2.1.cell (by omega)
        have HH : Hid _ := hash_any (ky es q) Bc (stQ (i % newN) sp s0 es q).cl W.drew HG.out.2.2.1 HG.out.2.2.2 (by have h1 := (stQ_bound (i % newN) sp s0 es q (by omega)).2.1; have h2 := HCB.out.1; omega)
        clear hs0
        gi_wp2
        have hSW : (fun w' : World => w'.cell? ⟨w.heap.size, 0, none⟩ = some (.pointer (some ⟨Bm, 0, none⟩)) ∧ w'.cell? ⟨Bm, 0, none⟩ = some (.func (.func 6) #[] #[.pointer (some ⟨Bc, 0, none⟩)]) ∧ w'.cell? ⟨bb, oo + 8 + r, none⟩ = some (.int .u64 (ky es q : Nat)) ∧ w'.cell? ⟨w1.heap.size, 0, none⟩ = some (.int .u64 sp)) W.drew := ⟨cm, km, e1', cs⟩
        refine region_round l _ mixed ?_ ?_ ?_
        · simp
        · rintro ⟨a9, w9, h9⟩
          simp [Exit.then, Exit.inBlock] at h9
          obtain ⟨h10, _⟩ := h9
          cases h10
        refine wpAny_of_held (S := fun w' : World => w'.cell? ⟨w.heap.size, 0, none⟩ = some (.pointer (some ⟨Bm, 0, none⟩)) ∧ w'.cell? ⟨Bm, 0, none⟩ = some (.func (.func 6) #[] #[.pointer (some ⟨Bc, 0, none⟩)]) ∧ w'.cell? ⟨bb, oo + 8 + r, none⟩ = some (.int .u64 (ky es q : Nat)) ∧ w'.cell? ⟨w1.heap.size, 0, none⟩ = some (.int .u64 sp)) _ _ _ _ ?_
        show wpAnyH _ _ _ _ _ _ _ _ W.drew
        refine wpAnyH_take (i := 0) (v := .int .i64 ((i : Int) % (newN : Int))) rfl (by kernel_rfl) (by kernel_rfl) (by kernel_rfl) (fun _ _ _ h => h) (Or.inl ⟨by rfl, ?_⟩) hSW ?_
        · rintro w' ⟨k1, k2, k3, k4⟩; go_simp
        refine wpAnyH_take (i := 1) (v := .pointer (some ⟨Bm, 0, none⟩)) rfl (by kernel_rfl) (by kernel_rfl) (by kernel_rfl) (fun _ _ _ h => h) (Or.inl ⟨by rfl, ?_⟩) hSW ?_
        · rintro w' ⟨k1, k2, k3, k4⟩; go_simp
        refine wpAnyH_take (i := 2) (v := .pointer (some ⟨Bm, 0, none⟩)) rfl (by kernel_rfl) (by kernel_rfl) (by kernel_rfl) (fun _ _ _ h => h) (Or.inl ⟨by rfl, ?_⟩) hSW ?_
        · rintro w' ⟨k1, k2, k3, k4⟩; go_simp
        refine wpAnyH_take (i := 3) (v := .pointer (some ⟨Bm, 0, none⟩)) rfl (by kernel_rfl) (by kernel_rfl) (by kernel_rfl) (fun _ _ _ h => h) (Or.inl ⟨by rfl, ?_⟩) hSW ?_
        · rintro w' ⟨k1, k2, k3, k4⟩; go_simp
        refine wpAnyH_take (i := 4) (v := .func (.func 6) #[] #[.pointer (some ⟨Bc, 0, none⟩)]) rfl (by kernel_rfl) (by kernel_rfl) (by kernel_rfl) (fun _ _ _ h => h) (Or.inl ⟨by rfl, ?_⟩) hSW ?_
        · rintro w' ⟨k1, k2, k3, k4⟩; go_simp
        refine wpAnyH_take (i := 5) (v := .pointer (some ⟨bb, oo, none⟩)) rfl (by kernel_rfl) (by kernel_rfl) (by kernel_rfl) (fun _ _ _ h => h) (Or.inl ⟨by rfl, ?_⟩) hSW ?_
        · rintro w' ⟨k1, k2, k3, k4⟩; go_simp
        refine wpAnyH_take (i := 6) (v := .int .i64 r) rfl (by kernel_rfl) (by kernel_rfl) (by kernel_rfl) (fun _ _ _ h => h) (Or.inl ⟨by rfl, ?_⟩) hSW ?_
        · rintro w' ⟨k1, k2, k3, k4⟩; go_simp
        refine wpAnyH_take (i := 7) (v := .pointer (some ⟨bb, oo, none⟩)) rfl (by kernel_rfl) (by kernel_rfl) (by kernel_rfl) (fun _ _ _ h => h) (Or.inl ⟨by rfl, ?_⟩) hSW ?_
        · rintro w' ⟨k1, k2, k3, k4⟩; go_simp
        refine wpAnyH_take (i := 8) (v := .pointer (some ⟨bb, oo + 8, none⟩)) rfl (by kernel_rfl) (by kernel_rfl) (by kernel_rfl) (fun _ _ _ h => h) (Or.inl ⟨by rfl, ?_⟩) hSW ?_
        · rintro w' ⟨k1, k2, k3, k4⟩; go_simp
        refine wpAnyH_take (i := 9) (v := .pointer (some ⟨bb, oo + 8 + r, none⟩)) rfl (by kernel_rfl) (by kernel_rfl) (by kernel_rfl) (fun _ _ _ h => h) (Or.inl ⟨by rfl, ?_⟩) hSW ?_
        · rintro w' ⟨k1, k2, k3, k4⟩; go_simp; intro h; omega
        refine wpAnyH_take (i := 10) (v := .int .u64 (ky es q : Nat)) rfl (by kernel_rfl) (by kernel_rfl) (by kernel_rfl) (fun _ _ _ h => h) (Or.inl ⟨by rfl, ?_⟩) hSW ?_
        · rintro w' ⟨k1, k2, k3, k4⟩; go_simp
        refine wpAnyH_take (i := 12) (v := .int .u64 sp) rfl (by kernel_rfl) (by kernel_rfl) (by kernel_rfl) (fun _ _ _ h => h) (Or.inl ⟨by rfl, ?_⟩) hSW ?_
        · rintro w' ⟨k1, k2, k3, k4⟩; go_simp
        refine wpAnyH_ready (rs := [11]) (by kernel_rfl) (by simp) ?_
        refine AllReadyH.cons rfl (fun K hK => ?_) AllReadyH.nil
        go_simp
        refine Calls.mono HH.out ?_
        rintro e w' ⟨rfl, rfl⟩
        obtain ⟨zc, z1, z2, z3, z4, hnew⟩ := HZ.out
        have oth : ∀ (b k : Nat) (v : Value), b ≠ Bc → W.cell? ⟨b, k, none⟩ = some v → (W.drew.setCell ⟨Bc, 0, none⟩ (.int .i64 (((stQ (i % newN) sp s0 es q).cl : Int) + 1))).cell? ⟨b, k, none⟩ = some v := fun b k v hb h => (World.cell?_of_block (a := ⟨b, k, none⟩) (Below.heap_setCell W.drew _ _ b hb)).trans h
        have hbc : bb ≠ Bc := fun e => HBB.out.2.2 (by rw [← e])
        have hS1 : (fun w' : World => w'.cell? ⟨w.heap.size, 0, none⟩ = some (.pointer (some ⟨Bm, 0, none⟩)) ∧ w'.cell? ⟨Bm, 0, none⟩ = some (.func (.func 6) #[] #[.pointer (some ⟨Bc, 0, none⟩)]) ∧ w'.cell? ⟨bb, oo + 8 + r, none⟩ = some (.int .u64 (ky es q : Nat)) ∧ w'.cell? ⟨w1.heap.size, 0, none⟩ = some (.int .u64 sp)) (W.drew.setCell ⟨Bc, 0, none⟩ (.int .i64 (((stQ (i % newN) sp s0 es q).cl : Int) + 1))) :=
          ⟨oth _ _ _ (by omega) cm, oth _ _ _ HM.out.2.2.2.2.1 km, oth _ _ _ hbc e1', oth _ _ _ (by omega) cs⟩
        refine hK.out _ _ hS1 (fun _ => ?_)
        clear hK K HH hSW
        have HA1 : bits .and .u64 (ky es q : Int) (sp : Int) = ((ky es q &&& sp : Nat) : Int) := bits_and_u64_nat _ _ HKB.out (by have := HCB.out.2; omega)
        have hml : ky es q &&& sp < 1024 := Nat.lt_of_le_of_lt Nat.and_le_right HCB.out.2
        have HDD : Hid (i % newN ||| (ky es q &&& sp) = destOf (i % newN) sp (ky es q)) := destOf_or HS0.out
        generalize ky es q &&& sp = m at HA1 hml HDD
        have hml2 : wrap64 (m : Int) = m := wrap_m hml
        have hml3 : IntKind.i64.wrap (m : Int) = m := wrap_m3 hml
        refine wpAnyH_take (i := 13) (v := .int .u64 (m : Nat)) rfl (by kernel_rfl) (by kernel_rfl) (by kernel_rfl) (fun _ _ _ h => h) (Or.inl ⟨by rfl, ?_⟩) hS1 ?_
        · rintro w' ⟨k1, k2, k3, k4⟩; go_simp
        refine wpAnyH_take (i := 14) (v := .int .i64 (m : Nat)) rfl (by kernel_rfl) (by kernel_rfl) (by kernel_rfl) (fun _ _ _ h => h) (Or.inl ⟨by rfl, ?_⟩) hS1 ?_
        · rintro w' ⟨k1, k2, k3, k4⟩; go_simp
        have hor : bits .or .i64 ((i : Int) % (newN : Int)) (m : Int) = ((i % newN ||| m : Nat) : Int) := or_base hn0 hn hml
        refine wpAnyH_take (i := 15) (v := .int .i64 ((i % newN ||| m : Nat) : Int)) rfl (by kernel_rfl) (by kernel_rfl) (by kernel_rfl) (fun _ _ _ h => h) (Or.inl ⟨by rfl, ?_⟩) hS1 ?_
        · rintro w' ⟨k1, k2, k3, k4⟩; go_simp
        clear hor hml2 hml3 HA1
        generalize hDD : i % newN ||| m = D at HDD ⊢
        refine wpAnyH_take (i := 16) (v := .int .i64 (D : Nat)) rfl (by kernel_rfl) (by kernel_rfl) (by kernel_rfl) (fun _ _ _ h => h) (Or.inl ⟨by rfl, ?_⟩) hS1 ?_
        · rintro w' ⟨k1, k2, k3, k4⟩; go_simp
        refine wpAnyH_done (by kernel_rfl) ?_ _
        have hq9 : q < es.length := hq
        have HDE : Hid (destOf (i % newN) sp es[q].k = D) := by rw [HDD.out, ent_at hq9]; exact rfl
        have HDL : Hid (D < newN) := by rw [← HDE.out]; exact HM.out.2.2.2.2.2.2.2.2.2 _ (List.getElem_mem hq9)
        have HG2 : Hid (Grow w4 (W.drew.setCell ⟨Bc, 0, none⟩ (.int .i64 (((stQ (i % newN) sp s0 es q).cl : Int) + 1))) Bn newN ovn s0.L (Xs Bm Bc w3.heap.size) F ov (stQ (i % newN) sp s0 es q).L ∧ Row (W.drew.setCell ⟨Bc, 0, none⟩ (.int .i64 (((stQ (i % newN) sp s0 es q).cl : Int) + 1))) Bm 18 53 (mapF Bc Bn Bo newN oldN next len (stQ (i % newN) sp s0 es q).ovc mig) ∧ (W.drew.setCell ⟨Bc, 0, none⟩ (.int .i64 (((stQ (i % newN) sp s0 es q).cl : Int) + 1))).cell? ⟨Bc, 0, none⟩ = some (.int .i64 ((stQ (i % newN) sp s0 es q).cl + 1 : Nat)) ∧ (W.drew.setCell ⟨Bc, 0, none⟩ (.int .i64 (((stQ (i % newN) sp s0 es q).cl : Int) + 1))).frozen? ⟨Bc, 0, none⟩ = false) :=
          ⟨(HG.out.1.drewN 1).set _ (.inr (.inl rfl)) (by omega) HM.out.2.1, (HG.out.2.1.drewN 1).other _ HM.out.2.2.2.2.1, World.cell?_setCell_same _ _ _ HG.out.2.2.1, (by simpa using HG.out.2.2.2)⟩
        have HKP : Hid (∀ W9 : World, KeepsFrom w4.heap.size (W.drew.setCell ⟨Bc, 0, none⟩ (.int .i64 (((stQ (i % newN) sp s0 es q).cl : Int) + 1))).drew W9 ∧ Place w3.heap.size (W.drew.setCell ⟨Bc, 0, none⟩ (.int .i64 (((stQ (i % newN) sp s0 es q).cl : Int) + 1))).drew W9 ∧ Inv w4 Bm Bc w3.heap.size Bn Bo newN oldN next len mig ovn s0 (i % newN) sp es (q + 1) W9 → KeepsFrom w4.heap.size W W9 ∧ Place w3.heap.size W W9 ∧ Inv w4 Bm Bc w3.heap.size Bn Bo newN oldN next len mig ovn s0 (i % newN) sp es (q + 1) W9) := by
          rintro W9 ⟨h1, h2, h3⟩
          have hb9 : (W.drew.setCell ⟨Bc, 0, none⟩ (.int .i64 (((stQ (i % newN) sp s0 es q).cl : Int) + 1))).heap[w3.heap.size]? = W.heap[w3.heap.size]? := Below.heap_setCell W.drew _ _ _ (by show w3.heap.size ≠ Bc; omega)
          have hk9 : KeepsFrom w4.heap.size W.drew (W.drew.setCell ⟨Bc, 0, none⟩ (.int .i64 (((stQ (i % newN) sp s0 es q).cl : Int) + 1))) := (KeepsOthers.setCell _ _ _).from _
          refine ⟨⟨Nat.le_trans hk9.size h1.size, fun k o hk ho hc => h1.same k o hk (hk9.same k o hk ho hc) hc⟩, ⟨h2.1.trans (World.cell?_of_block hb9), h2.2.trans (World.frozen?_of_block hb9)⟩, h3⟩
        clear oth hS1 hbc km hDD hml
        have cm2 : (W.drew.setCell ⟨Bc, 0, none⟩ (.int .i64 (((stQ (i % newN) sp s0 es q).cl : Int) + 1))).cell? ⟨w.heap.size, 0, none⟩ = some (.pointer (some ⟨Bm, 0, none⟩)) := (World.cell?_of_block (a := ⟨_, 0, none⟩) (Below.heap_setCell W.drew _ _ _ (by show w.heap.size ≠ Bc; omega))).trans cm
        have hbb' : bb ≠ Bc := fun e => HBB.out.2.2 (by rw [← e])
        have g0 : (W.drew.setCell ⟨Bc, 0, none⟩ (.int .i64 (((stQ (i % newN) sp s0 es q).cl : Int) + 1))).cell? ⟨bb, oo + r, none⟩ = some (.int .u8 (tg es q : Nat)) := (World.cell?_of_block (a := ⟨_, _, none⟩) (Below.heap_setCell W.drew _ _ _ hbb')).trans e0
        have g1 : (W.drew.setCell ⟨Bc, 0, none⟩ (.int .i64 (((stQ (i % newN) sp s0 es q).cl : Int) + 1))).cell? ⟨bb, oo + 8 + r, none⟩ = some (.int .u64 (ky es q : Nat)) := (World.cell?_of_block (a := ⟨_, _, none⟩) (Below.heap_setCell W.drew _ _ _ hbb')).trans e1'
        have g2 : (W.drew.setCell ⟨Bc, 0, none⟩ (.int .i64 (((stQ (i % newN) sp s0 es q).cl : Int) + 1))).cell? ⟨bb, oo + 16 + r, none⟩ = some (.int .i64 (vl es q : Nat)) := (World.cell?_of_block (a := ⟨_, _, none⟩) (Below.heap_setCell W.drew _ _ _ hbb')).trans e2'
        have ca2 : (W.drew.setCell ⟨Bc, 0, none⟩ (.int .i64 (((stQ (i % newN) sp s0 es q).cl : Int) + 1))).cell? ⟨w2.heap.size, 0, none⟩ = some (.int .i64 ((i : Int) % (newN : Int))) := (World.cell?_of_block (a := ⟨_, _, none⟩) (Below.heap_setCell W.drew _ _ _ (by show w2.heap.size ≠ Bc; omega))).trans ca
        have cs2 : (W.drew.setCell ⟨Bc, 0, none⟩ (.int .i64 (((stQ (i % newN) sp s0 es q).cl : Int) + 1))).cell? ⟨w1.heap.size, 0, none⟩ = some (.int .u64 sp) := (World.cell?_of_block (a := ⟨_, _, none⟩) (Below.heap_setCell W.drew _ _ _ (by show w1.heap.size ≠ Bc; omega))).trans cs
        clear cm e0 e1' e2' ca cs hbb' zc z1 z2 z3 z4 hnew
        generalize W.drew.setCell ⟨Bc, 0, none⟩ (.int .i64 (((stQ (i % newN) sp s0 es q).cl : Int) + 1)) = Wh at HG2 HKP cm2 g0 g1 g2 ca2 cs2 ⊢
        have cm := cm2
        clear cm2
        have e0 := g0
        clear g0
        have e1' := g1
        clear g1
        have e2' := g2
        clear g2
        have ca := ca2
        clear ca2
        have cs := cs2
        clear cs2
        have hTab := fun u => tabB (HG2.out.2.1.drewN u)
        have hil : D < newN := HDL.out
        have HAT : Hid _ := tat_any Bm 2 newN Bn D Wh.drew (hTab 1) hil (by omega)
        have HIN : Hid _ := insert_any Bn (newN * 25) (D * 25) F (ov D) ((stQ (i % newN) sp s0 es q).L D) ⟨tg es q, ky es q, vl es q⟩ Wh.drew (HG2.out.1.fam.row.drewN 1) (by omega) ((HG2.out.1.fam.drewN 1).ch _ hil) (HG2.out.1.fam.ok _ hil) (by have h1 := (stQ_bound (i % newN) sp s0 es q (by omega)).2.2 D; have h2 := HLB.out.2 _ hil; omega)
        clear hTab
        gi_wp2
        have hSW : (fun w' : World => w'.cell? ⟨w.heap.size, 0, none⟩ = some (.pointer (some ⟨Bm, 0, none⟩)) ∧ w'.cell? ⟨bb, oo + r, none⟩ = some (.int .u8 (tg es q : Nat)) ∧ w'.cell? ⟨bb, oo + 8 + r, none⟩ = some (.int .u64 (ky es q : Nat)) ∧ w'.cell? ⟨bb, oo + 16 + r, none⟩ = some (.int .i64 (vl es q : Nat))) Wh.drew := ⟨cm, e0, e1', e2'⟩
        refine region_round l _ mixed ?_ ?_ ?_
        · simp
        · rintro ⟨a9, w9, h9⟩
          simp [Exit.then, Exit.inBlock] at h9
          obtain ⟨h10, _⟩ := h9
          cases h10
        refine wpAny_of_held (S := fun w' : World => w'.cell? ⟨w.heap.size, 0, none⟩ = some (.pointer (some ⟨Bm, 0, none⟩)) ∧ w'.cell? ⟨bb, oo + r, none⟩ = some (.int .u8 (tg es q : Nat)) ∧ w'.cell? ⟨bb, oo + 8 + r, none⟩ = some (.int .u64 (ky es q : Nat)) ∧ w'.cell? ⟨bb, oo + 16 + r, none⟩ = some (.int .i64 (vl es q : Nat))) _ _ _ _ ?_
        show wpAnyH _ _ _ _ _ _ _ _ Wh.drew
        refine wpAnyH_take (i := 0) (v := .pointer (some ⟨Bm, 0, none⟩)) rfl (by kernel_rfl) (by kernel_rfl) (by kernel_rfl) (fun _ _ _ h => h) (Or.inl ⟨by rfl, ?_⟩) hSW ?_
        · rintro w' ⟨k1, k2, k3, k4⟩; go_simp
        refine wpAnyH_take (i := 1) (v := .pointer (some ⟨Bm, 0, none⟩)) rfl (by kernel_rfl) (by kernel_rfl) (by kernel_rfl) (fun _ _ _ h => h) (Or.inl ⟨by rfl, ?_⟩) hSW ?_
        · rintro w' ⟨k1, k2, k3, k4⟩; go_simp
        refine wpAnyH_take (i := 2) (v := .pointer (some ⟨Bm, 2, none⟩)) rfl (by kernel_rfl) (by kernel_rfl) (by kernel_rfl) (fun _ _ _ h => h) (Or.inl ⟨by rfl, ?_⟩) hSW ?_
        · rintro w' ⟨k1, k2, k3, k4⟩; go_simp
        refine wpAnyH_take (i := 3) (v := .int .i64 (D : Nat)) rfl (by kernel_rfl) (by kernel_rfl) (by kernel_rfl) (fun _ _ _ h => h) (Or.inl ⟨by rfl, ?_⟩) hSW ?_
        · rintro w' ⟨k1, k2, k3, k4⟩; go_simp
        refine wpAnyH_take (i := 5) (v := .pointer (some ⟨bb, oo, none⟩)) rfl (by kernel_rfl) (by kernel_rfl) (by kernel_rfl) (fun _ _ _ h => h) (Or.inl ⟨by rfl, ?_⟩) hSW ?_
        · rintro w' ⟨k1, k2, k3, k4⟩; go_simp
        refine wpAnyH_take (i := 6) (v := .int .i64 r) rfl (by kernel_rfl) (by kernel_rfl) (by kernel_rfl) (fun _ _ _ h => h) (Or.inl ⟨by rfl, ?_⟩) hSW ?_
        · rintro w' ⟨k1, k2, k3, k4⟩; go_simp
        refine wpAnyH_take (i := 7) (v := .pointer (some ⟨bb, oo, none⟩)) rfl (by kernel_rfl) (by kernel_rfl) (by kernel_rfl) (fun _ _ _ h => h) (Or.inl ⟨by rfl, ?_⟩) hSW ?_
        · rintro w' ⟨k1, k2, k3, k4⟩; go_simp
        refine wpAnyH_take (i := 8) (v := .pointer (some ⟨bb, oo, none⟩)) rfl (by kernel_rfl) (by kernel_rfl) (by kernel_rfl) (fun _ _ _ h => h) (Or.inl ⟨by rfl, ?_⟩) hSW ?_
        · rintro w' ⟨k1, k2, k3, k4⟩; go_simp
        refine wpAnyH_take (i := 9) (v := .pointer (some ⟨bb, oo + r, none⟩)) rfl (by kernel_rfl) (by kernel_rfl) (by kernel_rfl) (fun _ _ _ h => h) (Or.inl ⟨by rfl, ?_⟩) hSW ?_
        · rintro w' ⟨k1, k2, k3, k4⟩; go_simp; intro h; omega
        refine wpAnyH_take (i := 10) (v := .int .u8 (tg es q : Nat)) rfl (by kernel_rfl) (by kernel_rfl) (by kernel_rfl) (fun _ _ _ h => h) (Or.inl ⟨by rfl, ?_⟩) hSW ?_
        · rintro w' ⟨k1, k2, k3, k4⟩; go_simp
        refine wpAnyH_take (i := 11) (v := .pointer (some ⟨bb, oo, none⟩)) rfl (by kernel_rfl) (by kernel_rfl) (by kernel_rfl) (fun _ _ _ h => h) (Or.inl ⟨by rfl, ?_⟩) hSW ?_
        · rintro w' ⟨k1, k2, k3, k4⟩; go_simp
        refine wpAnyH_take (i := 12) (v := .int .i64 r) rfl (by kernel_rfl) (by kernel_rfl) (by kernel_rfl) (fun _ _ _ h => h) (Or.inl ⟨by rfl, ?_⟩) hSW ?_
        · rintro w' ⟨k1, k2, k3, k4⟩; go_simp
        refine wpAnyH_take (i := 13) (v := .pointer (some ⟨bb, oo, none⟩)) rfl (by kernel_rfl) (by kernel_rfl) (by kernel_rfl) (fun _ _ _ h => h) (Or.inl ⟨by rfl, ?_⟩) hSW ?_
        · rintro w' ⟨k1, k2, k3, k4⟩; go_simp
        refine wpAnyH_take (i := 14) (v := .pointer (some ⟨bb, oo + 8, none⟩)) rfl (by kernel_rfl) (by kernel_rfl) (by kernel_rfl) (fun _ _ _ h => h) (Or.inl ⟨by rfl, ?_⟩) hSW ?_
        · rintro w' ⟨k1, k2, k3, k4⟩; go_simp
        refine wpAnyH_take (i := 15) (v := .pointer (some ⟨bb, oo + 8 + r, none⟩)) rfl (by kernel_rfl) (by kernel_rfl) (by kernel_rfl) (fun _ _ _ h => h) (Or.inl ⟨by rfl, ?_⟩) hSW ?_
        · rintro w' ⟨k1, k2, k3, k4⟩; go_simp; intro h; omega
        refine wpAnyH_take (i := 16) (v := .int .u64 (ky es q : Nat)) rfl (by kernel_rfl) (by kernel_rfl) (by kernel_rfl) (fun _ _ _ h => h) (Or.inl ⟨by rfl, ?_⟩) hSW ?_
        · rintro w' ⟨k1, k2, k3, k4⟩; go_simp
        refine wpAnyH_take (i := 17) (v := .pointer (some ⟨bb, oo, none⟩)) rfl (by kernel_rfl) (by kernel_rfl) (by kernel_rfl) (fun _ _ _ h => h) (Or.inl ⟨by rfl, ?_⟩) hSW ?_
        · rintro w' ⟨k1, k2, k3, k4⟩; go_simp
        refine wpAnyH_take (i := 18) (v := .int .i64 r) rfl (by kernel_rfl) (by kernel_rfl) (by kernel_rfl) (fun _ _ _ h => h) (Or.inl ⟨by rfl, ?_⟩) hSW ?_
        · rintro w' ⟨k1, k2, k3, k4⟩; go_simp
        refine wpAnyH_take (i := 19) (v := .pointer (some ⟨bb, oo, none⟩)) rfl (by kernel_rfl) (by kernel_rfl) (by kernel_rfl) (fun _ _ _ h => h) (Or.inl ⟨by rfl, ?_⟩) hSW ?_
        · rintro w' ⟨k1, k2, k3, k4⟩; go_simp
        refine wpAnyH_take (i := 20) (v := .pointer (some ⟨bb, oo + 16, none⟩)) rfl (by kernel_rfl) (by kernel_rfl) (by kernel_rfl) (fun _ _ _ h => h) (Or.inl ⟨by rfl, ?_⟩) hSW ?_
        · rintro w' ⟨k1, k2, k3, k4⟩; go_simp
        refine wpAnyH_take (i := 21) (v := .pointer (some ⟨bb, oo + 16 + r, none⟩)) rfl (by kernel_rfl) (by kernel_rfl) (by kernel_rfl) (fun _ _ _ h => h) (Or.inl ⟨by rfl, ?_⟩) hSW ?_
        · rintro w' ⟨k1, k2, k3, k4⟩; go_simp; intro h; omega
        refine wpAnyH_take (i := 22) (v := .int .i64 (vl es q : Nat)) rfl (by kernel_rfl) (by kernel_rfl) (by kernel_rfl) (fun _ _ _ h => h) (Or.inl ⟨by rfl, ?_⟩) hSW ?_
        · rintro w' ⟨k1, k2, k3, k4⟩; go_simp
        refine wpAnyH_ready (rs := [4]) (by kernel_rfl) (by simp) ?_
        refine AllReadyH.cons rfl (fun K hK => ?_) AllReadyH.nil
        go_simp
        refine Calls.mono HAT.out ?_
        rintro e w' ⟨rfl, rfl⟩
        refine hK.out _ _ hSW (fun _ => ?_)
        clear hK K
        refine wpAnyH_ready (rs := [23]) (by kernel_rfl) (by simp) ?_
        refine AllReadyH.cons rfl (fun K hK => ?_) AllReadyH.nil
        go_simp
        refine Calls.mono HIN.out ?_
        rintro e w5 ⟨rfl, F2, ov2, hPut⟩
        have hkeep : ∀ b k v, b < w4.heap.size → ¬ Mine Bn newN ovn s0.L b → Wh.cell? ⟨b, k, none⟩ = some v → w5.cell? ⟨b, k, none⟩ = some v := fun b k v hb hm hv => (World.cell?_of_block (a := ⟨b, k, none⟩) ((HG2.out.1.drewN 1).far hil hPut hb hm)).trans hv
        obtain ⟨zc, z1, z2, z3, z4, hnew⟩ := HZ.out
        have hS5 : (fun w' : World => w'.cell? ⟨w.heap.size, 0, none⟩ = some (.pointer (some ⟨Bm, 0, none⟩)) ∧ w'.cell? ⟨bb, oo + r, none⟩ = some (.int .u8 (tg es q : Nat)) ∧ w'.cell? ⟨bb, oo + 8 + r, none⟩ = some (.int .u64 (ky es q : Nat)) ∧ w'.cell? ⟨bb, oo + 16 + r, none⟩ = some (.int .i64 (vl es q : Nat))) w5 :=
          ⟨hkeep _ _ _ (by omega) (hnew _ (Nat.le_refl _)) cm, hkeep _ _ _ HBB.out.1 HBB.out.2.1 e0, hkeep _ _ _ HBB.out.1 HBB.out.2.1 e1', hkeep _ _ _ HBB.out.1 HBB.out.2.1 e2'⟩
        refine hK.out _ _ hS5 (fun _ => ?_)
        clear hK K
        refine wpAnyH_done (by kernel_rfl) ?_ _
        have cm5 := hS5.1
        have HP : Hid _ := hPut
        have M5 : Row w5 Bm 18 53 (mapF Bc Bn Bo newN oldN next len (stQ (i % newN) sp s0 es q).ovc mig) := ((HG2.out.1.drewN 1).far hil hPut H4.out.1.lt HM.out.1).trans HG2.out.2.1
        have k14 : w5.cell? ⟨Bm, 14, none⟩ = some (.int .i64 ((stQ (i % newN) sp s0 es q).ovc : Nat)) := M5.cell (by omega)
        have f14 := M5.frozen (k := 14)
        clear hPut hS5 hSW hkeep e0 e1' e2' cm ca cs zc z1 z2 z3 z4 hnew M5
        by_cases hch : 0 < ((stQ (i % newN) sp s0 es q).L D).length ∧ ((stQ (i % newN) sp s0 es q).L D).length % 8 = 0
        · have hcb : decide (0 < ((stQ (i % newN) sp s0 es q).L D).length ∧ ((stQ (i % newN) sp s0 es q).L D).length % 8 = 0) = true := decide_eq_true hch
          have HCH : Hid _ := hch
          clear hch
          rw [hcb]
          gi_wp2
          obtain ⟨zc, z1, z2, z3, z4, hnew⟩ := HZ.out
          have hq9 : q < es.length := hq
          have ed : destOf (i % newN) sp es[q].k = D := by exact HDE.out
          have hp9 : Put Wh.drew w5 Bn (newN * 25) (destOf (i % newN) sp es[q].k * 25) F (ov (destOf (i % newN) sp es[q].k)) ((stQ (i % newN) sp s0 es q).L (destOf (i % newN) sp es[q].k)) es[q] F2 ov2 := by rw [ed, ent_at hq9]; exact HP.out
          have hw9 : wrap64 (((stQ (i % newN) sp s0 es q).ovc : Int) + 1) = ((stQ (i % newN) sp s0 es q).ovc : Int) + 1 := by
            have h1 := (stQ_bound (i % newN) sp s0 es q (by omega)).1
            have h2 := HLB.out.1
            unfold wrap64; omega
          rw [hw9]
          have hcl : Wh.drew.cell? ⟨Bc, 0, none⟩ = some (.int .i64 ((stQ (i % newN) sp s0 es q).cl + (if sp = 0 then 0 else 1) : Nat)) := by rw [if_neg HS0.out]; exact HG2.out.2.2.1
          have fin := round_end (W := Wh.drew) hq9 HM.out.2.2.2.2.2.2.2.2.1 (by rw [ed]; exact hil) H4.out.1.lt (by omega) (by omega) HM.out.1 HM.out.2.1 (hnew _ (by omega)) HM.out.2.2.2.2.1 (by omega) (HG2.out.1.drewN 1) (HG2.out.2.1.drewN 1) hcl HG2.out.2.2.2 hp9 (W2 := w5.setCell ⟨Bm, 14, none⟩ (.int .i64 (((stQ (i % newN) sp s0 es q).ovc : Int) + 1))) (.inr ⟨by rw [ed]; exact HCH.out, rfl⟩)
          exact HKP.out _ fin
        · have hcb : decide (0 < ((stQ (i % newN) sp s0 es q).L D).length ∧ ((stQ (i % newN) sp s0 es q).L D).length % 8 = 0) = false := decide_eq_false hch
          have HCH : Hid _ := hch
          clear hch
          rw [hcb]
          gi_wp2
          obtain ⟨zc, z1, z2, z3, z4, hnew⟩ := HZ.out
          have hq9 : q < es.length := hq
          have ed : destOf (i % newN) sp es[q].k = D := by exact HDE.out
          have hp9 : Put Wh.drew w5 Bn (newN * 25) (destOf (i % newN) sp es[q].k * 25) F (ov (destOf (i % newN) sp es[q].k)) ((stQ (i % newN) sp s0 es q).L (destOf (i % newN) sp es[q].k)) es[q] F2 ov2 := by rw [ed, ent_at hq9]; exact HP.out
          have hcl : Wh.drew.cell? ⟨Bc, 0, none⟩ = some (.int .i64 ((stQ (i % newN) sp s0 es q).cl + (if sp = 0 then 0 else 1) : Nat)) := by rw [if_neg HS0.out]; exact HG2.out.2.2.1
          have fin := round_end (W := Wh.drew) hq9 HM.out.2.2.2.2.2.2.2.2.1 (by rw [ed]; exact hil) H4.out.1.lt (by omega) (by omega) HM.out.1 HM.out.2.1 (hnew _ (by omega)) HM.out.2.2.2.2.1 (by omega) (HG2.out.1.drewN 1) (HG2.out.2.1.drewN 1) hcl HG2.out.2.2.2 hp9 (W2 := w5) (.inl ⟨by rw [ed]; exact HCH.out, rfl⟩)
          exact HKP.out _ fin
    case iter =>
      intro l J W hJI hJb hJd hP hY h0
      refine iter_any 7 l w3.heap.size Bo (oldN * 25) (i * 25) Fo ovo es J W (by omega) HM.out.2.2.2.2.2.2.2.2.1 (by omega) (fun q W hj => ?_) hJb hJd (hP.1.trans HB4.out.2.2.2.1) (hP.2.trans HB4.out.2.2.2.2) hY h0
      obtain ⟨F, ov, hG, _⟩ := hJI q W hj
      exact HOLD.out W F ov _ hG
    case done =>
      rintro D W hD ⟨F, ov, hG, hM, hc, hcf⟩ hdf
      obtain ⟨zc, z1, z2, z3, z4, hnew⟩ := HZ.out
      have keep : ∀ b k v, b < w4.heap.size → ¬ Mine Bn newN ovn s0.L b → ¬ Xs Bm Bc w3.heap.size b → w4.cell? ⟨b, k, none⟩ = some v → W.cell? ⟨b, k, none⟩ = some v := fun b k v hb h1 h2 h3 => by
        rw [hG.stay.cell b k hb (fun e => e.elim h1 h2)]; exact h3
      have cm := keep w.heap.size 0 _ (by omega) (hnew _ (Nat.le_refl _)) (by unfold Xs; omega) HB4.out.1
      have OW := (HOLD.out W F ov _ hG).1
      have hbm := HR.out.lt
      have hbo := HD.out.2.1.lt
      have HGG : Hid _ := (⟨hG, hM, hc, hcf⟩ : _ ∧ _ ∧ _ ∧ _)
      gi_wp2
      refine move_tail hi ho HTG.out.2.1 hM OW cm HTG.out.2.2 HTG.out.1 HM.out.2.2.2.2.2.1 (by omega) (by omega) hdf ?_
      rintro w' ⟨nx, hsw, hMm, hOo, hSt⟩
      have aft := after_move HT.out hG (by omega) HM.out.1 HM.out.2.2.1 hbm hbo hD hdf hSt
      have hbc : w'.heap[Bc]? = W.heap[Bc]? := hSt.block Bc (by have := hG.stay.size; omega) (by rintro (e | e | e); exact HM.out.2.2.2.2.1 e.symm; exact HM.out.2.2.2.2.2.2.1 e; omega)
      exact ⟨rfl, nx, F, ov, hsw, hMm, hOo, aft.1, aft.2.1, (World.cell?_of_block (a := ⟨Bc, 0, none⟩) hbc).trans hc, (World.frozen?_of_block (a := ⟨Bc, 0, none⟩) hbc).trans hcf, aft.2.2⟩
    · have h := HZ.out.2.2.2.2.1; omega
    · have h := HZ.out; omega
    · rintro q W v ⟨F, ov, hG, hM, hc, hcf⟩
      obtain ⟨zc, z1, z2, z3, z4, hnew⟩ := HZ.out
      have hb := HR.out.lt
      refine ⟨F, ov, hG.set v (.inr (.inr rfl)) (by omega) (hnew _ (by omega)), hM.other _ (by omega), ?_, ?_⟩
      · exact (World.cell?_of_block (a := ⟨Bc, 0, none⟩) (Below.heap_setCell _ _ _ _ (show Bc ≠ w3.heap.size by omega))).trans hc
      · exact (World.frozen?_of_block (a := ⟨Bc, 0, none⟩) (Below.heap_setCell _ _ _ _ (show Bc ≠ w3.heap.size by omega))).trans hcf
    · rintro q W r ⟨F, ov, hG, hM, hc, hcf⟩
      exact ⟨F, ov, hG.drewN r, hM.drewN r, hc, hcf⟩
    · refine ⟨Fn, ovn, ?_, ?_, ?_, H4.out.2.2.2.2.2⟩
      · rw [stQ_zero]; exact Grow.start H4.out.2.2.2.1
      · rw [stQ_zero, HM.out.2.2.2.2.2.2.2.1]; exact H4.out.1
      · rw [stQ_zero]; exact H4.out.2.2.2.2.1
end Go.Proofs.Ybulkeaqa
