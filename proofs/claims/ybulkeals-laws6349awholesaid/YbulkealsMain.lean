import Derived.Test.YbulkealsTail
namespace Go.Proofs.Ybulkeals
open Go.RowKit Go.MapKept Go.Maps Go.Sort Go.Shelf
set_option linter.unusedSimpArgs false

set_option maxRecDepth 100000 in
set_option maxHeartbeats 4000000 in
theorem law_main (sA iA : Option Addr) (sb so n sc m ic : Nat) (ID : Nat → Int) (KA : Nat → Option Addr) (kb ko KL KC : Nat → Nat) (KZ : Nat → Nat → Int) (sel : Int) (raw : ByteArray) (w : World) (hn : n ≤ 65536) (hm : m ≤ 65536)
    (hS : Steps6 w sA sb so n ID KA kb ko KL KC KZ) (ht : tot KL n ≤ 1048576) (hsel : 0 ≤ sel ∧ sel ≤ 255)
    (xs : List ByteArray) (hxs : SliceIs w iA m xs) (hib : ∀ b off, iA = some ⟨b, off, none⟩ → 0 < m → b < w.heap.size) :
    Calls Yba.prog 3 #[.slice sA n sc, .slice iA m ic, .int .u8 sel, .string raw] w fun e w' => e = .returned (.bool true) ∧ Below w.heap.size w w' := by
  have hd1 : decide ((65536 : Int) < (n : Int)) = false := by simp; omega
  have hd2 : decide ((65536 : Int) < (m : Int)) = false := by simp; omega
  have HS : Hid (Steps6 w sA sb so n ID KA kb ko KL KC KZ) := hS
  have HX : Hid (SliceIs w iA m xs ∧ ∀ b off, iA = some ⟨b, off, none⟩ → 0 < m → b < w.heap.size) := ⟨hxs, hib⟩
  clear hS hxs hib
  obtain ⟨i0, hi, hz0, hz1, hz2⟩ := info_parts info9
  go_enter Yba.func3, Yba.ntmps3
  go_wp2
  go_loop [9, 10] (fun t i => ∃ s : Nat, s ≤ n ∧ i = .int .i64 s ∧ t = .int .i64 (tot KL s)) (fun _ i => n - (intOf i).toNat)
  case atStart => exact ⟨0, Nat.zero_le _, rfl, rfl⟩
  case round =>
    obtain ⟨s, hs, rfl, rfl⟩ := hrel
    by_cases hlt : s < n
    · have e0 := (HS.out.at_ (by omega)).1
      have hc := HS.out.keys s hlt
      have hsu : tot KL s + KL s ≤ tot KL n := tot_mono KL (show s + 1 ≤ n from hlt)
      have Hx : Hid (tot KL (s + 1) = tot KL s + KL s) := rfl
      clear HS
      subst e0
      go_wp2
      go_round
      case rel => exact ⟨s + 1, by omega, by go_num, by rw [Hx.out]; go_num⟩
      case measure => simp [intOf]; omega
    · have es : s = n := by omega
      have hd3 : decide ((1048576 : Int) < (tot KL s : Int)) = false := by rw [es]; simp; omega
      have hge : n ≤ s := by omega
      clear es hs
      go_wp2_with (first
        | (go_at_call 4; refine (new_any _).mono ?_; rintro e w1 ⟨rfl, ⟨M0, fh0, hx0, hh0⟩, hb0⟩))
      have HM : Hid (Mid w w1 (Lof ID KL KZ 0)) := mid_start hx0 hh0 hb0
      clear hx0 hh0 hb0
      go_loopw [56] (fun c wr => ∃ s : Nat, s ≤ n ∧ c = .int .i64 s ∧ Mid w wr (Lof ID KL KZ s)) (fun c _ => n - (intOf c).toNat)
      case atStart => exact ⟨0, Nat.zero_le _, rfl, HM.out⟩
      case round =>
        rename World => wo
        obtain ⟨s2, hs2, rfl, hmid⟩ := hrel
        have HMid : Hid (Mid w wo (Lof ID KL KZ s2)) := hmid
        by_cases hlt2 : s2 < n
        · obtain ⟨e0, hsb⟩ := HS.out.at_ (by omega)
          have hcid := (hmid.below.cell (p := ⟨sb, so + s2 * 2, none⟩) hsb).trans (HS.out.id s2 hlt2).1
          have hck := (hmid.below.cell (p := ⟨sb, so + s2 * 2 + 1, none⟩) hsb).trans (HS.out.keys s2 hlt2)
          obtain ⟨_, hid1, hid2⟩ := HS.out.id s2 hlt2
          have hsu : KL s2 ≤ tot KL n := le_tot KL hlt2
          have HZ : Hid ((0 < KL s2 → KA s2 = some ⟨kb s2, ko s2, none⟩ ∧ kb s2 < w.heap.size) ∧ ∀ k, k < KL s2 → w.cell? ⟨kb s2, ko s2 + k, none⟩ = some (.int .u8 (KZ s2 k)) ∧ 0 ≤ KZ s2 k ∧ KZ s2 k ≤ 255) :=
            ⟨HS.out.kat s2 hlt2, fun k hk => HS.out.kz s2 k hlt2 hk⟩
          obtain ⟨ka, eka⟩ : ∃ ka, KA s2 = ka := ⟨_, rfl⟩
          obtain ⟨ii, hi4, hii⟩ : ∃ i : Nat, i < 4 ∧ ID s2 % 4 = (i : Int) := ⟨(ID s2 % 4).toNat, by omega, by omega⟩
          have Hii : Hid ((ID s2 % 4).toNat = ii) := by rw [hii]; simp [Hid]
          rw [eka] at hck HZ
          clear HS HM hmid eka
          subst e0
          go_wp2_with (first
            | (at_make; refine wpList_make_own _ rfl _ _ 23 rfl (wo.heap.size + 1) 9 i0 (.string ⟨#[]⟩) 1 Yba.underlying23 hi hz0 hz1 .i64 .i64 _ (KL s2) rfl rfl rfl (by rw [hz2]; omega) (by unfold maxLen; omega) (by simp) ?_; intro w2 hown2 hg2; have hst2 := st_cell hg2))
          rw [World.size_alloc] at hown2
          obtain ⟨hb3, ho3, hne3, hle3, hr3⟩ := inner_start hg2 hown2 (.cells #[.bool false, .bool false, .bool false, .bool false] 27)
          have HI : Hid (Below wo.heap.size wo (w2.alloc (.cells #[.bool false, .bool false, .bool false, .bool false] 27)) ∧ (w2.alloc (.cells #[.bool false, .bool false, .bool false, .bool false] 27)).ownsRow (wo.heap.size + 1) 9 1 (.slice (some ⟨wo.heap.size + 1, 0, none⟩) 0 (KL s2)) 0 [] ∧ (w2.alloc (.cells #[.bool false, .bool false, .bool false, .bool false] 27)).heap[w2.heap.size]? = some (.cells #[.bool false, .bool false, .bool false, .bool false] 27)) := ⟨hb3, ho3, hr3⟩
          clear hb3 ho3 hr3 hst2 hown2 hg2 hcid hck
          go_loopw [16, 71] (fun v c w3 => ∃ t : Nat, t ≤ KL s2 ∧ c = .int .i64 t ∧ v = .slice (some ⟨wo.heap.size + 1, 0, none⟩) t (KL s2) ∧ w3.ownsRow (wo.heap.size + 1) 9 1 (.slice (some ⟨wo.heap.size + 1, 0, none⟩) t (KL s2)) t ((kl KZ s2 t).map fun j => Value.string (kS j)) ∧ w3.heap[w2.heap.size]? = some (.cells (rowA (kl KZ s2 t)) 27 (0, 0)) ∧ Below wo.heap.size wo w3) (fun _ c _ => KL s2 - (intOf c).toNat)
          case atStart => exact ⟨0, Nat.zero_le _, rfl, rfl, by simpa [kl] using HI.out.2.1, by simpa [kl, rowA] using HI.out.2.2, HI.out.1⟩
          case round =>
            clear HI
            obtain ⟨t, ht2, rfl, rfl, hown3, hrow3, hb3⟩ := hrel
            by_cases hlt3 : t < KL s2
            · obtain ⟨e1, hkb⟩ := HZ.out.1 (by omega)
              obtain ⟨hcz0, hz1', hz2'⟩ := HZ.out.2 t hlt3
              have hwz := HMid.out.below.size
              have hcz := ((hb3.cell (p := ⟨kb s2, ko s2 + t, none⟩) (by show kb s2 < _; omega)).trans (HMid.out.below.cell (p := ⟨kb s2, ko s2 + t, none⟩) hkb)).trans hcz0
              obtain ⟨jj, hj4, hjj⟩ : ∃ j : Nat, j < 4 ∧ KZ s2 t % 4 = (j : Int) := ⟨(KZ s2 t % 4).toNat, by omega, by omega⟩
              have Hjj : Hid ((KZ s2 t % 4).toNat = jj) := by rw [hjj]; simp [Hid]
              have H3 : Hid (wr.heap[w2.heap.size]? = some (.cells (rowA (kl KZ s2 t)) 27 (0, 0)) ∧ Below wo.heap.size wo wr) := ⟨hrow3, hb3⟩
              clear hcz0 hrow3 hb3 HZ HMid
              subst e1
              go_wp2_with (first
                | (go_at_call 5; refine (key_any _ hj4 _).mono ?_; rintro e w' ⟨rfl, rfl⟩)
                | (at_builtin; refine wpList_append_fits _ rfl _ _ 23 rfl (wo.heap.size + 1) 9 i0 1 Yba.underlying23 hi hz1 (wo.heap.size + 1) t (KL s2) _ rfl (hown3.alloc _) ⟨wr.heap.size, 0, none⟩ 1 1 [.string (kS jj)] rfl rfl (cell_one_new _ _ _) (by simp [Value.oneCell']) (by omega) ?_; intro w4 hown4 hg4; have HR : Hid _ := inner_step hj4 H3.out.2 (Nat.le_succ _) hne3 (Nat.le_trans (Nat.le_succ _) hle3) H3.out.1 hg4 hown4; have hc4 := cell_of HR.out.1 (rowA_get _ hj4); have hf4 := frozen_of (o := jj) HR.out.1))
              go_roundw
              case rel =>
                refine ⟨t + 1, by omega, by go_num, rfl, ?_, ?_, HR.out.2.2.2⟩
                · rw [kl_succ, Hjj.out]; exact HR.out.2.1
                · rw [kl_succ, Hjj.out]; exact HR.out.2.2.1
              case measure => simp [intOf]; omega
            · have et : t = KL s2 := by omega
              subst et
              obtain ⟨M4, fh4, hx4, hh4⟩ := HMid.out.idx
              have hX4 := below_idx hx4 (by omega) hb3
              have hH4 := below_held hh4 hb3
              have hsz4 : w.heap.size + 1 ≤ wr.heap.size := Nat.le_trans HMid.out.size hb3.size
              have hLb : ∀ a, a < 4 → (Lof ID KL KZ s2 a).length ≤ 1048576 := fun a _ => Lof_le ID KL KZ 1048576 s2 a (fun s hs => Nat.le_trans (le_tot KL (show s < n by omega)) ht)
              have Hset : Hid _ := set_any' (l := kl KZ s2 (KL s2)) hX4 hH4 hsz4 hi4 hLb (wo.heap.size + 1) (wo.heap.size + 1) (KL s2) (KL s2) (kl_length _ _ _) hown3 (kl_lt _ _ _) (by omega)
              have H3 : Hid (wr.heap[w2.heap.size]? = some (.cells (rowA (kl KZ s2 (KL s2))) 27 (0, 0)) ∧ RowKit.Below wo.heap.size wo wr) := ⟨hrow3, hb3⟩
              clear hx4 hh4 hX4 hH4 hsz4 hLb hown3 hrow3 hb3 HZ
              go_wp2_with (first
                | (go_at_call 7; refine (id_any _ hi4 _).mono ?_; rintro e w' ⟨rfl, rfl⟩))
              refine Calls.mono Hset.out ?_
              rintro e w5 ⟨rfl, ⟨M5, fh5, hx5, hh5⟩, hk5⟩
              have HM5 : Hid _ := mid_step hi4 HMid.out H3.out.2 H3.out.1 hx5 hh5 hk5
              obtain ⟨m5, r5, _⟩ := HM5.out
              have q0 := cell_of r5 (rowA_get (kl KZ s2 (KL s2)) (j := 0) (by omega))
              have q1 := cell_of r5 (rowA_get (kl KZ s2 (KL s2)) (j := 1) (by omega))
              have q2 := cell_of r5 (rowA_get (kl KZ s2 (KL s2)) (j := 2) (by omega))
              have q3 := cell_of r5 (rowA_get (kl KZ s2 (KL s2)) (j := 3) (by omega))
              have Hii' := Hii.out
              have M0' : Hid _ := fun j (hj : j < 4) => cell_of m5 (matA_get (Lof ID KL KZ s2) hi4 hj)
              have f5 := fun o => frozen_of (o := o) m5
              clear hx5 hh5 hk5 m5 r5 Hset H3 HMid
              rcases lt4 hi4 with rfl | rfl | rfl | rfl
              all_goals
                have p0 := M0'.out 0 (by omega)
                have p1 := M0'.out 1 (by omega)
                have p2 := M0'.out 2 (by omega)
                have p3 := M0'.out 3 (by omega)
                simp only [Nat.mul_zero, Nat.zero_add, Nat.add_zero, Nat.reduceMul, Nat.reduceAdd] at p0 p1 p2 p3
                clear Hii' M0'
                go_wp2_with fail
                refine ⟨⟨s2 + 1, by omega, by go_num, ?_⟩, by simp [intOf]; omega⟩
                show Mid w _ (setL (Lof ID KL KZ s2) (ID s2 % 4).toNat (kl KZ s2 (KL s2)))
                rw [Hii.out]
                exact HM5.out.2.2
        · have es2 : s2 = n := by omega
          have hge2 : n ≤ s2 := by omega
          subst es2
          clear HS HM hmid hlt hlt2
          obtain ⟨L, hL⟩ : ∃ L, Lof ID KL KZ s2 = L := ⟨_, rfl⟩
          rw [hL] at HMid
          clear hL
          by_cases hs5 : sel % 5 < 4
          · obtain ⟨j5, hj5, hsj⟩ : ∃ j : Nat, j < 4 ∧ sel % 5 = (j : Int) := ⟨(sel % 5).toNat, by omega, by omega⟩
            go_wp2_with (first
              | (go_at_call 5; refine (key_any _ hj5 _).mono ?_; rintro e w' ⟨rfl, rfl⟩))
            obtain ⟨key, ekey⟩ : ∃ key, kS j5 = key := ⟨_, rfl⟩
            rw [ekey]
            clear ekey hs5 hsj hj5
            have HW : Hid _ := want_start wo
            go_loopw [22, 23] (fun v c wr => ∃ t : Nat, t ≤ 4 ∧ c = .int .i64 t ∧ wr.ownsRow wo.heap.size 9 1 v (wantL L key t).length ((wantL L key t).map fun i => Value.string (iS i)) ∧ RowKit.Below wo.heap.size wo wr) (fun _ c _ => 4 - (intOf c).toNat)
            case atStart => exact ⟨0, by omega, rfl, by simpa [wantL] using HW.out.1, HW.out.2⟩
            case round =>
              rename World => wp
              obtain ⟨t, ht4, rfl, hown, hbw⟩ := hrel
              have HO : Hid (wp.ownsRow wo.heap.size 9 1 u22 (wantL L key t).length ((wantL L key t).map fun i => Value.string (iS i)) ∧ RowKit.Below wo.heap.size wo wp) := ⟨hown, hbw⟩
              by_cases hlt4 : t < 4
              · have hwl := wantL_le L key t
                have hd4 : decide ((t : Int) < 4) = true := by simp; omega
                clear hown hbw HW
                go_wp2_with fail
                go_loopw [22, 24] (fun v c wr => ∃ u : Nat, u ≤ 4 ∧ c = .int .i64 u ∧ v = u22 ∧ wr = wp ∧ ∀ j, j < u → ¬ (j ∈ L t ∧ kS j = key)) (fun _ c _ => 4 - (intOf c).toNat)
                case atStart => exact ⟨0, by omega, rfl, rfl, rfl, fun j hj => by omega⟩
                case round =>
                  obtain ⟨u, hu4, rfl, rfl, rfl, hno⟩ := hrel
                  have HN : Hid (∀ j, j < u → ¬ (j ∈ L t ∧ kS j = key)) := hno
                  clear hno
                  by_cases hltu : u < 4
                  · have hcm := mat_cell HMid.out HO.out.2 hlt4 hltu
                    by_cases hmem : u ∈ L t
                    · by_cases hk : (kS u).toList = key.toList
                      · have hkb : ((kS u).toList == key.toList) = true := by simpa using hk
                        have Hk : Hid (u ∈ L t ∧ kS u = key) := ⟨hmem, toList_inj hk⟩
                        clear hk
                        go_wp2_with (first
                          | (go_at_call 5; refine (key_any _ hltu _).mono ?_; rintro e w' ⟨rfl, rfl⟩)
                          | (go_at_call 7; refine (id_any _ hlt4 _).mono ?_; rintro e w' ⟨rfl, rfl⟩)
                          | (at_builtin; refine wpList_append_own _ rfl _ _ 23 rfl wo.heap.size 9 i0 (.string ⟨#[]⟩) 1 16 Yba.underlying23 hi hz0 hz1 hz2 rfl (by decide) _ _ _ rfl (HO.out.1.alloc _) ⟨wr.heap.size, 0, none⟩ 1 1 [.string (iS t)] rfl rfl (cell_one_new _ _ _) (by simp [Value.oneCell']) (by unfold maxLen; omega) (by omega) (by have := HO.out.2.size; simp; omega) ?_; intro v' w6 hown6 hg6 _))
                        refine ⟨⟨t + 1, by omega, by go_num, ?_, ?_⟩, by simp [intOf]; omega⟩
                        · rw [want_hit hltu Hk.out.1 Hk.out.2]; simpa using hown6
                        · exact (HO.out.2.alloc HO.out.2.size _).grown hg6 (by have := HO.out.2.size; simp; omega) (fun k e => (HO.out.1.lt k e).1)
                      · have hkb : ((kS u).toList == key.toList) = false := by simpa using hk
                        go_wp2_with (first
                          | (go_at_call 5; refine (key_any _ hltu _).mono ?_; rintro e w' ⟨rfl, rfl⟩))
                        go_roundw
                        case rel => exact ⟨u + 1, by omega, by go_num, by trivial, by trivial, no_succ HN.out (fun h => hk (by rw [h.2]))⟩
                        case measure => simp [intOf]; omega
                    · have hmb : decide (u ∈ L t) = false := by simpa using hmem
                      rw [hmb] at hcm
                      go_wp2_with fail
                      go_roundw
                      case rel => exact ⟨u + 1, by omega, by go_num, by trivial, by trivial, no_succ HN.out (fun h => hmem h.1)⟩
                      case measure => simp [intOf]; omega
                  · have hge4 : 4 ≤ u := by omega
                    go_wp2_with fail
                    refine ⟨⟨t + 1, by omega, by go_num, ?_, HO.out.2⟩, by simp [intOf]; omega⟩
                    rw [want_miss (fun j hj => HN.out j (by omega))]; exact HO.out.1
              · have et4 : t = 4 := by omega
                subst et4
                clear hown hbw HW
                have hbT : RowKit.Below w.heap.size w wp := HMid.out.below.trans (HO.out.2.mono HMid.out.below.size)
                have hxT := HX.out.1.kept HX.out.2 hbT
                have hwl := wantL_le L key 4
                obtain ⟨k4, hk4⟩ : ∃ k4, (wantL L key 4).length = k4 := ⟨_, rfl⟩
                have hO1 := HO.out.1
                have hO2 := HO.out.2
                clear HO
                rw [hk4] at hO1 hwl
                rw [ids_str] at hO1
                obtain ⟨aw, cw, rfl, hsw, hcw, hlw⟩ := owns_slice' hO1
                have HK4 : Hid ((wantL L key 4).length = k4) := hk4
                have HW4 : Hid (SliceIs wp aw k4 ((wantL L key 4).map iS) ∧ (∀ b off, aw = some ⟨b, off, none⟩ → 0 < k4 → b < wp.heap.size) ∧ RowKit.Below wo.heap.size wo wp) := ⟨hsw, hlw, hO2⟩
                clear hk4 hO1 hO2 hsw hlw
                go_wp2_with (first
                  | (go_at_call 8; refine (clone_any iA m ic xs _ hxT (by omega)).mono ?_; rintro e w1 ⟨v1, rfl, hown1, hb1⟩; obtain ⟨a1, c1, rfl, hs1, hc1, hl1⟩ := owns_slice' hown1)
                  | (at_make; refine wpList_make_full _ rfl _ _ 23 rfl w1.heap.size 9 i0 (.string ⟨#[]⟩) 1 Yba.underlying23 hi hz0 hz1 .i64 .i64 _ _ m rfl rfl rfl rfl (by rw [hz2]; omega) (by unfold maxLen; omega) (Nat.le_refl _) ?_; intro w2 hown2 hg2; have hb2 : RowKit.Below w1.heap.size w1 w2 := (RowKit.Below.refl _ _).grown hg2 (Nat.le_refl _) (fun k e => by cases e); have hx2 := HX.out.1.kept HX.out.2 ((hbT.trans (hb1.mono hbT.size)).trans (hb2.mono (Nat.le_trans hbT.size hb1.size))))
                  | (refine wpList_copy_all rfl (.tmp 133) (.tmp 134) rfl w1.heap.size w1.heap.size m ic iA rfl rfl _ hown2 xs hx2 ?_; intro w3 hown3 hb3))
                have H1 : Hid (SliceIs w1 a1 m xs ∧ (∀ b off, a1 = some ⟨b, off, none⟩ → 0 < m → b < w1.heap.size) ∧ RowKit.Below wp.heap.size wp w1) := ⟨hs1, hl1, hb1⟩
                have hb13 : RowKit.Below w1.heap.size w1 w3 := hb2.trans hb3
                have hz1p : wp.heap.size ≤ w1.heap.size := hb1.size
                have hz3 : w1.heap.size ≤ w3.heap.size := hb13.size
                have hzp : wo.heap.size ≤ wp.heap.size := HW4.out.2.2.size
                have hbo3 : RowKit.Below wo.heap.size wo w3 := (HW4.out.2.2.trans (hb1.mono hzp)).trans (hb13.mono (by omega))
                obtain ⟨M3, fh3, hx3, _⟩ := HMid.out.idx
                have hX3 := below_idx hx3 (by omega) hbo3
                have Hids : Hid _ := ids_any hX3 key w1.heap.size m (some ⟨w1.heap.size, 0, none⟩) m (xs.map Value.string) hown3 hz3 hm
                clear hx3 hX3 hown1 hs1 hl1 hown2 hg2 hx2 hxT hown3 hb1 hb2 hb3
                refine Calls.mono Hids.out ?_
                rintro e w4 ⟨v4, ts, rfl, hts, hown4, hb4⟩
                have hlen : ts.length = k4 := (holders_perm hts).length_eq.trans HK4.out
                rw [hlen, ids_str, ← List.map_append] at hown4
                obtain ⟨a4, c4, rfl, hs4, hc4, hl4⟩ := owns_slice' hown4
                have hb14 : RowKit.Below w1.heap.size w1 w4 := hb13.trans hb4
                have hbw4 : RowKit.Below w.heap.size w w4 := (hbT.trans (H1.out.2.2.mono hbT.size)).trans (hb14.mono (Nat.le_trans hbT.size hz1p))
                have HT : Hid (Holders (hof L) key ts ∧ ts.length = k4) := ⟨hts, hlen⟩
                have hx4 := HX.out.1.kept HX.out.2 hbw4
                have ho4 := H1.out.1.kept H1.out.2.1 hb14
                clear hown4 Hids hts hlen
                have hcl := fun W => cut_lo a4 (m + k4) c4 m W (by omega)
                obtain ⟨a5, ha5⟩ : ∃ a5, (if c4 = m then a4 else a4.map (·.add m)) = a5 := ⟨_, rfl⟩
                have hxl : xs.length = m := HX.out.1.1
                have hs5 := hs4.hi (c := c4) hxl hc4
                have hch : ∀ W, (Instr.slice 23 (.slice a4 (m + k4) c4) (some (.int .i64 m)) none none).run Yba.prog W = .ok (.slice a5 k4 (c4 - m)) W := fun W => by rw [cut_hi a4 (m + k4) c4 m W (by omega), ha5, Nat.add_sub_cancel_left]
                rw [ha5, Nat.add_sub_cancel_left] at hs5
                have hs4l := hs4.lo hxl
                have HC : Hid _ := hs5
                have HLo : Hid _ := hs4l
                have Ha5 : Hid _ := ha5
                clear ha5 hs5 hs4l hs4
                go_wp2_with fail
                refine (equal_any iA a1 m ic m c1 xs xs _ hx4 ho4 (by omega) (by omega)).mono ?_
                rintro e w5 ⟨rfl, q5, rfl⟩
                go_wp2_with fail
                refine (equal_any a4 iA m c4 m ic xs xs (w4.drewN q5) HLo.out hx4 (by omega) (by omega)).mono ?_
                rintro e w5 ⟨rfl, q6, rfl⟩
                go_wp2_with fail
                refine (clone_any a5 k4 (c4 - m) (ts.map iS) (w4.drewN (q5 + q6)) HC.out (by omega)).mono ?_
                rintro e w6 ⟨v6, rfl, hown6, hb6⟩
                obtain ⟨a6, c6, rfl, _, hc6, hl6⟩ := owns_slice' hown6
                have hown6' := hown6
                rw [← ids_str, ids_enc] at hown6'
                have hsort := sort_any _ k4 _ _ _ hown6' (by omega) hb6.size
                have HQ : Hid _ := hsort
                clear hsort hown6' hown6
                go_wp2_with fail
                refine Calls.mono HQ.out ?_
                rintro e w7 ⟨rfl, hown7, hb7⟩
                rw [sorted_holders HT.out.1, ← ids_enc, ids_str] at hown7
                obtain ⟨a7, c7, e7, hs7, hc7, hl7⟩ := owns_slice' hown7
                obtain ⟨rfl, rfl⟩ : a6 = a7 ∧ c6 = c7 := by simpa using e7
                have hb47 : RowKit.Below w4.heap.size w4 w7 := (show RowKit.Below w4.heap.size w4 w6 from ⟨hb6.os, hb6.tape, hb6.output, hb6.size, hb6.block⟩).trans (show RowKit.Below w4.heap.size w6 w7 from hb7)
                have hbp7 : RowKit.Below wp.heap.size wp w7 := (H1.out.2.2.trans (hb14.mono hz1p)).trans (hb47.mono (Nat.le_trans hz1p hb14.size))
                have hsw7 := HW4.out.1.kept HW4.out.2.1 hbp7
                clear hown7 hl7 HQ hb6 hb7 e7
                go_wp2_with fail
                refine (equal_any a6 aw k4 c6 k4 cw _ _ w7 hs7 hsw7 (by omega) (by omega)).mono ?_
                rintro e w8 ⟨rfl, q8, rfl⟩
                go_wp2
                go_ret
                exact ⟨by simp, bdN (hbw4.trans (hb47.mono hbw4.size)) _⟩
          · go_wp2_with fail
            obtain ⟨key, ekey⟩ : ∃ key, key = raw := ⟨_, rfl⟩
            subst ekey
            clear hs5
            have HW : Hid _ := want_start wo
            go_loopw [22, 23] (fun v c wr => ∃ t : Nat, t ≤ 4 ∧ c = .int .i64 t ∧ wr.ownsRow wo.heap.size 9 1 v (wantL L key t).length ((wantL L key t).map fun i => Value.string (iS i)) ∧ RowKit.Below wo.heap.size wo wr) (fun _ c _ => 4 - (intOf c).toNat)
            case atStart => exact ⟨0, by omega, rfl, by simpa [wantL] using HW.out.1, HW.out.2⟩
            case round =>
              rename World => wp
              obtain ⟨t, ht4, rfl, hown, hbw⟩ := hrel
              have HO : Hid (wp.ownsRow wo.heap.size 9 1 u22 (wantL L key t).length ((wantL L key t).map fun i => Value.string (iS i)) ∧ RowKit.Below wo.heap.size wo wp) := ⟨hown, hbw⟩
              by_cases hlt4 : t < 4
              · have hwl := wantL_le L key t
                have hd4 : decide ((t : Int) < 4) = true := by simp; omega
                clear hown hbw HW
                go_wp2_with fail
                go_loopw [22, 24] (fun v c wr => ∃ u : Nat, u ≤ 4 ∧ c = .int .i64 u ∧ v = u22 ∧ wr = wp ∧ ∀ j, j < u → ¬ (j ∈ L t ∧ kS j = key)) (fun _ c _ => 4 - (intOf c).toNat)
                case atStart => exact ⟨0, by omega, rfl, rfl, rfl, fun j hj => by omega⟩
                case round =>
                  obtain ⟨u, hu4, rfl, rfl, rfl, hno⟩ := hrel
                  have HN : Hid (∀ j, j < u → ¬ (j ∈ L t ∧ kS j = key)) := hno
                  clear hno
                  by_cases hltu : u < 4
                  · have hcm := mat_cell HMid.out HO.out.2 hlt4 hltu
                    by_cases hmem : u ∈ L t
                    · by_cases hk : (kS u).toList = key.toList
                      · have hkb : ((kS u).toList == key.toList) = true := by simpa using hk
                        have Hk : Hid (u ∈ L t ∧ kS u = key) := ⟨hmem, toList_inj hk⟩
                        clear hk
                        go_wp2_with (first
                          | (go_at_call 5; refine (key_any _ hltu _).mono ?_; rintro e w' ⟨rfl, rfl⟩)
                          | (go_at_call 7; refine (id_any _ hlt4 _).mono ?_; rintro e w' ⟨rfl, rfl⟩)
                          | (at_builtin; refine wpList_append_own _ rfl _ _ 23 rfl wo.heap.size 9 i0 (.string ⟨#[]⟩) 1 16 Yba.underlying23 hi hz0 hz1 hz2 rfl (by decide) _ _ _ rfl (HO.out.1.alloc _) ⟨wr.heap.size, 0, none⟩ 1 1 [.string (iS t)] rfl rfl (cell_one_new _ _ _) (by simp [Value.oneCell']) (by unfold maxLen; omega) (by omega) (by have := HO.out.2.size; simp; omega) ?_; intro v' w6 hown6 hg6 _))
                        refine ⟨⟨t + 1, by omega, by go_num, ?_, ?_⟩, by simp [intOf]; omega⟩
                        · rw [want_hit hltu Hk.out.1 Hk.out.2]; simpa using hown6
                        · exact (HO.out.2.alloc HO.out.2.size _).grown hg6 (by have := HO.out.2.size; simp; omega) (fun k e => (HO.out.1.lt k e).1)
                      · have hkb : ((kS u).toList == key.toList) = false := by simpa using hk
                        go_wp2_with (first
                          | (go_at_call 5; refine (key_any _ hltu _).mono ?_; rintro e w' ⟨rfl, rfl⟩))
                        go_roundw
                        case rel => exact ⟨u + 1, by omega, by go_num, by trivial, by trivial, no_succ HN.out (fun h => hk (by rw [h.2]))⟩
                        case measure => simp [intOf]; omega
                    · have hmb : decide (u ∈ L t) = false := by simpa using hmem
                      rw [hmb] at hcm
                      go_wp2_with fail
                      go_roundw
                      case rel => exact ⟨u + 1, by omega, by go_num, by trivial, by trivial, no_succ HN.out (fun h => hmem h.1)⟩
                      case measure => simp [intOf]; omega
                  · have hge4 : 4 ≤ u := by omega
                    go_wp2_with fail
                    refine ⟨⟨t + 1, by omega, by go_num, ?_, HO.out.2⟩, by simp [intOf]; omega⟩
                    rw [want_miss (fun j hj => HN.out j (by omega))]; exact HO.out.1
              · have et4 : t = 4 := by omega
                subst et4
                clear hown hbw HW
                have hbT : RowKit.Below w.heap.size w wp := HMid.out.below.trans (HO.out.2.mono HMid.out.below.size)
                have hxT := HX.out.1.kept HX.out.2 hbT
                have hwl := wantL_le L key 4
                obtain ⟨k4, hk4⟩ : ∃ k4, (wantL L key 4).length = k4 := ⟨_, rfl⟩
                have hO1 := HO.out.1
                have hO2 := HO.out.2
                clear HO
                rw [hk4] at hO1 hwl
                rw [ids_str] at hO1
                obtain ⟨aw, cw, rfl, hsw, hcw, hlw⟩ := owns_slice' hO1
                have HK4 : Hid ((wantL L key 4).length = k4) := hk4
                have HW4 : Hid (SliceIs wp aw k4 ((wantL L key 4).map iS) ∧ (∀ b off, aw = some ⟨b, off, none⟩ → 0 < k4 → b < wp.heap.size) ∧ RowKit.Below wo.heap.size wo wp) := ⟨hsw, hlw, hO2⟩
                clear hk4 hO1 hO2 hsw hlw
                go_wp2_with (first
                  | (go_at_call 8; refine (clone_any iA m ic xs _ hxT (by omega)).mono ?_; rintro e w1 ⟨v1, rfl, hown1, hb1⟩; obtain ⟨a1, c1, rfl, hs1, hc1, hl1⟩ := owns_slice' hown1)
                  | (at_make; refine wpList_make_full _ rfl _ _ 23 rfl w1.heap.size 9 i0 (.string ⟨#[]⟩) 1 Yba.underlying23 hi hz0 hz1 .i64 .i64 _ _ m rfl rfl rfl rfl (by rw [hz2]; omega) (by unfold maxLen; omega) (Nat.le_refl _) ?_; intro w2 hown2 hg2; have hb2 : RowKit.Below w1.heap.size w1 w2 := (RowKit.Below.refl _ _).grown hg2 (Nat.le_refl _) (fun k e => by cases e); have hx2 := HX.out.1.kept HX.out.2 ((hbT.trans (hb1.mono hbT.size)).trans (hb2.mono (Nat.le_trans hbT.size hb1.size))))
                  | (refine wpList_copy_all rfl (.tmp 133) (.tmp 134) rfl w1.heap.size w1.heap.size m ic iA rfl rfl _ hown2 xs hx2 ?_; intro w3 hown3 hb3))
                have H1 : Hid (SliceIs w1 a1 m xs ∧ (∀ b off, a1 = some ⟨b, off, none⟩ → 0 < m → b < w1.heap.size) ∧ RowKit.Below wp.heap.size wp w1) := ⟨hs1, hl1, hb1⟩
                have hb13 : RowKit.Below w1.heap.size w1 w3 := hb2.trans hb3
                have hz1p : wp.heap.size ≤ w1.heap.size := hb1.size
                have hz3 : w1.heap.size ≤ w3.heap.size := hb13.size
                have hzp : wo.heap.size ≤ wp.heap.size := HW4.out.2.2.size
                have hbo3 : RowKit.Below wo.heap.size wo w3 := (HW4.out.2.2.trans (hb1.mono hzp)).trans (hb13.mono (by omega))
                obtain ⟨M3, fh3, hx3, _⟩ := HMid.out.idx
                have hX3 := below_idx hx3 (by omega) hbo3
                have Hids : Hid _ := ids_any hX3 key w1.heap.size m (some ⟨w1.heap.size, 0, none⟩) m (xs.map Value.string) hown3 hz3 hm
                clear hx3 hX3 hown1 hs1 hl1 hown2 hg2 hx2 hxT hown3 hb1 hb2 hb3
                refine Calls.mono Hids.out ?_
                rintro e w4 ⟨v4, ts, rfl, hts, hown4, hb4⟩
                have hlen : ts.length = k4 := (holders_perm hts).length_eq.trans HK4.out
                rw [hlen, ids_str, ← List.map_append] at hown4
                obtain ⟨a4, c4, rfl, hs4, hc4, hl4⟩ := owns_slice' hown4
                have hb14 : RowKit.Below w1.heap.size w1 w4 := hb13.trans hb4
                have hbw4 : RowKit.Below w.heap.size w w4 := (hbT.trans (H1.out.2.2.mono hbT.size)).trans (hb14.mono (Nat.le_trans hbT.size hz1p))
                have HT : Hid (Holders (hof L) key ts ∧ ts.length = k4) := ⟨hts, hlen⟩
                have hx4 := HX.out.1.kept HX.out.2 hbw4
                have ho4 := H1.out.1.kept H1.out.2.1 hb14
                clear hown4 Hids hts hlen
                have hcl := fun W => cut_lo a4 (m + k4) c4 m W (by omega)
                obtain ⟨a5, ha5⟩ : ∃ a5, (if c4 = m then a4 else a4.map (·.add m)) = a5 := ⟨_, rfl⟩
                have hxl : xs.length = m := HX.out.1.1
                have hs5 := hs4.hi (c := c4) hxl hc4
                have hch : ∀ W, (Instr.slice 23 (.slice a4 (m + k4) c4) (some (.int .i64 m)) none none).run Yba.prog W = .ok (.slice a5 k4 (c4 - m)) W := fun W => by rw [cut_hi a4 (m + k4) c4 m W (by omega), ha5, Nat.add_sub_cancel_left]
                rw [ha5, Nat.add_sub_cancel_left] at hs5
                have hs4l := hs4.lo hxl
                have HC : Hid _ := hs5
                have HLo : Hid _ := hs4l
                have Ha5 : Hid _ := ha5
                clear ha5 hs5 hs4l hs4
                go_wp2_with fail
                refine (equal_any iA a1 m ic m c1 xs xs _ hx4 ho4 (by omega) (by omega)).mono ?_
                rintro e w5 ⟨rfl, q5, rfl⟩
                go_wp2_with fail
                refine (equal_any a4 iA m c4 m ic xs xs (w4.drewN q5) HLo.out hx4 (by omega) (by omega)).mono ?_
                rintro e w5 ⟨rfl, q6, rfl⟩
                go_wp2_with fail
                refine (clone_any a5 k4 (c4 - m) (ts.map iS) (w4.drewN (q5 + q6)) HC.out (by omega)).mono ?_
                rintro e w6 ⟨v6, rfl, hown6, hb6⟩
                obtain ⟨a6, c6, rfl, _, hc6, hl6⟩ := owns_slice' hown6
                have hown6' := hown6
                rw [← ids_str, ids_enc] at hown6'
                have hsort := sort_any _ k4 _ _ _ hown6' (by omega) hb6.size
                have HQ : Hid _ := hsort
                clear hsort hown6' hown6
                go_wp2_with fail
                refine Calls.mono HQ.out ?_
                rintro e w7 ⟨rfl, hown7, hb7⟩
                rw [sorted_holders HT.out.1, ← ids_enc, ids_str] at hown7
                obtain ⟨a7, c7, e7, hs7, hc7, hl7⟩ := owns_slice' hown7
                obtain ⟨rfl, rfl⟩ : a6 = a7 ∧ c6 = c7 := by simpa using e7
                have hb47 : RowKit.Below w4.heap.size w4 w7 := (show RowKit.Below w4.heap.size w4 w6 from ⟨hb6.os, hb6.tape, hb6.output, hb6.size, hb6.block⟩).trans (show RowKit.Below w4.heap.size w6 w7 from hb7)
                have hbp7 : RowKit.Below wp.heap.size wp w7 := (H1.out.2.2.trans (hb14.mono hz1p)).trans (hb47.mono (Nat.le_trans hz1p hb14.size))
                have hsw7 := HW4.out.1.kept HW4.out.2.1 hbp7
                clear hown7 hl7 HQ hb6 hb7 e7
                go_wp2_with fail
                refine (equal_any a6 aw k4 c6 k4 cw _ _ w7 hs7 hsw7 (by omega) (by omega)).mono ?_
                rintro e w8 ⟨rfl, q8, rfl⟩
                go_wp2
                go_ret
                exact ⟨by simp, bdN (hbw4.trans (hb47.mono hbw4.size)) _⟩
end Go.Proofs.Ybulkeals
