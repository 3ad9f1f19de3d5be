import Derived.Test.Qxb6617896aPair
import Derived.Test.Qxb6617896aSame
import Derived.Test.Qxb6617896aBy5
namespace Go.Proofs.Qxb6617896a
open Go.ChangeShapes Go.WideShapes Go.ChangeAt Go.RowKit
attribute [local go_sem ↓] Go.wp_at_zero Go.wp_at_succ

theorem gr_range {a b : Int} (a0 : 0 ≤ a) (a1 : a ≤ 18446744073709551615) (b0 : 0 ≤ b) (b1 : b ≤ 18446744073709551615) : 0 ≤ gr a b ∧ gr a b ≤ 18446744073709551615 := by
  unfold gr
  split <;> omega

theorem floor_gr (hs : List Hold) (c : ByteArray) (h : Int) : floorOf (dropH hs c h) c = gr (floorOf hs c) h := by
  rw [floorOf_dropH]
  unfold gr
  simp

/-- At the head of law 5's first loop. -/
def L5 (w6 wr : World) (n j : Nat) (H : Nat → Bool) : Prop := Below w6.heap.size w6 wr ∧ wr.rowIs w6.heap.size 4 n (fun p => .bool (if p < j then H p else false))

set_option maxHeartbeats 8000000 in
set_option maxRecDepth 100000 in
/-- FnDropBelowTwiceIsOnceAtTheGreater answers true. -/
theorem law5_walk (a : Option Addr) (n c : Nat) (g : ByteArray) (va vb : Int) (T : Nat → Stp) (A : Nat → Option Addr) (K : Nat → Nat) (w : World) (hg : g.size ≤ maxLen) (a0 : 0 ≤ va) (a1 : va ≤ 18446744073709551615) (b0 : 0 ≤ vb) (b1 : vb ≤ 18446744073709551615) (h : StepsAt w a n c T A K) :
    Calls Try.prog 5 #[.slice a n c, .string g, .int .u64 va, .int .u64 vb] w fun e w' => e = .returned (.bool true) ∧ Below w.heap.size w w' := by
  have HA := hide h
  have hnc := h.1
  have hcm := h.2.1
  have hgm := hg
  unfold maxLen at hcm hgm
  clear h
  go_enter Try.func5, Try.ntmps5
  go_wp2_with fail
  refine (bytes17 a n c g va vb T A K w hg HA.out).mono ?_
  rintro e w' ⟨hr, rfl⟩
  rcases hr with rfl | rfl
  · go_wp2
    go_ret
    exact ⟨rfl, Below.refl _ _⟩
  by_cases t1 : (4096 : Int) < (n : Int)
  · go_wp2
    go_ret
    exact ⟨rfl, Below.refl _ _⟩
  by_cases t2 : (65536 : Int) < (g.size : Int)
  · go_wp2
    go_ret
    exact ⟨rfl, Below.refl _ _⟩
  go_wp2_with fail
  refine (stepsOver a n c T A K (1048576 - (g.size : Int)) w' (by omega) (by omega) HA.out (by omega)).mono ?_
  rintro e w1 ⟨hr, rfl⟩
  rcases hr with rfl | ⟨rfl, htot⟩
  · go_wp2
    go_ret
    exact ⟨rfl, Below.refl _ _⟩
  go_wp2_with fail
  refine (increasing a n c T A K w1 HA.out (by omega)).mono ?_
  rintro e w2 ⟨hr, q, rfl⟩
  have hbq : Below w1.heap.size w1 (w1.drewN q) := below_drewN (Below.refl _ _) q
  rcases hr with rfl | ⟨rfl, hinc0⟩
  · go_wp2
    go_ret
    exact ⟨rfl, hbq⟩
  have HINC := hide (inc_all hinc0)
  clear hinc0
  have HA2 := hide (HA.out.below hbq)
  have HBQ := hide hbq
  clear hbq
  have htot' : (tot T n : Int) ≤ 1048576 := by omega
  have HVL : Hid (∀ i, i < n → (T i).val.length ≤ 1048576) := by
    intro i hi
    have h1 := tot_mono T (n := n) (k := i + 1) (by omega)
    simp only [tot] at h1
    omega
  have hgr := gr_range a0 a1 b0 b1
  obtain ⟨w2, hw2⟩ : ∃ w2, w2 = w1.drewN q := ⟨_, rfl⟩
  rw [← hw2] at HA2 HBQ ⊢
  clear hw2
  go_upto_if 46 with fail
  go_cut [9] (fun v wx => v = .int .u64 (gr va vb) ∧ wx = w2)
  case first =>
    by_cases t3 : va < vb
    · go_wp2
      go_meet
      case rel => exact ⟨by rw [show gr va vb = vb by unfold gr; rw [if_pos t3]], rfl⟩
    · go_wp2
      go_meet
      case rel => exact ⟨by rw [show gr va vb = va by unfold gr; rw [if_neg (by omega)]], rfl⟩
  case rest =>
    obtain ⟨w9, rfl⟩ : ∃ w9 : World, w9 = wc := ⟨_, rfl⟩
    obtain ⟨rfl, rfl⟩ := hcut
    obtain ⟨hi, HHI⟩ : ∃ hi, Hid (gr va vb = hi) := ⟨_, rfl⟩
    rw [HHI.out] at hgr ⊢
    go_wp2_with fail
    refine (cloneSteps a n c T A K _ HA2.out (by omega) HVL.out).mono ?_
    rintro e w3 ⟨⟨a', c', A', K', rfl, hS3⟩, hB3⟩
    have HS3 := hide hS3
    have HB3 := hide (HBQ.out.trans (hB3.mono HBQ.out.size))
    have HA3 := hide (HA2.out.below hB3)
    clear hS3 hB3
    go_wp2_with fail
    refine (zzPlay a' n c' T A' K' w3 HS3.out (by omega) htot' HINC.out).mono ?_
    rintro e w4 ⟨rfl, es, hs, hP1⟩
    have HP1 := hide hP1
    have HA4 := hide (HA3.out.below hP1.2.2.2)
    clear hP1 HS3
    go_wp2_with fail
    refine (cloneSteps a n c T A K _ HA4.out (by omega) HVL.out).mono ?_
    rintro e w5 ⟨⟨a'', c'', A'', K'', rfl, hS5⟩, hB5⟩
    have HS5 := hide hS5
    have HB5 := hide hB5
    clear hS5 hB5
    go_wp2_with fail
    refine (zzPlay a'' n c'' T A'' K'' w5 HS5.out (by omega) htot' HINC.out).mono ?_
    rintro e w6 ⟨rfl, es', hs', hP2⟩
    obtain ⟨rfl, rfl, hA5⟩ := A5.mk' HB3.out HP1.out HB5.out hP2 HA.out.2.2.1 HINC.out
    have hG := hP2.2.1
    have HG0 := hide hG
    have HG := hide (hG.d (k := n) (m := 1024) (by omega) (by have := vtot_tot T n; omega))
    have HA5 := hide hA5
    clear hP2 hA5 hG HP1 HB5 HS5 HA4 HA3 HA2
    obtain ⟨B1, hB1⟩ : ∃ B1, B1 = w3.heap.size := ⟨_, rfl⟩
    obtain ⟨B2, hB2⟩ : ∃ B2, B2 = w5.heap.size := ⟨_, rfl⟩
    rw [← hB1, ← hB2] at HA5 ⊢
    clear hB1 hB2 HB3
    go_wp2_with fail
    refine (zzFloor g w6 hg HA5.out.r1).mono ?_
    rintro e w7 ⟨rfl, rfl⟩
    have hmk : ∀ w : World, (Instr.makeSlice 44 (.int .i64 (n : Int)) (.int .i64 (n : Int))).run Try.prog w = .ok (.slice (some ⟨w.heap.size, 0, none⟩) n n) (w.alloc (.cells (madeCells #[.bool false] n) 4)) := run_make_row' (P := Try.prog) 44 4 (.bool false) 1 Try.underlying44 Try.info4 rfl .i64 .i64 n (by omega) (by omega)
    obtain ⟨f, HF⟩ : ∃ f, Hid (floorOf hs' g = f) := ⟨_, rfl⟩
    rw [HF.out]
    obtain ⟨H, HH⟩ : ∃ H : Nat → Bool, Hid (∀ p, H p = (findE es' (T p).c (T p).seq).isSome) := ⟨fun p => (findE es' (T p).c (T p).seq).isSome, fun _ => rfl⟩
    go_wp2_with fail
    go_loopw [14] (fun i wr => ∃ k : Nat, k ≤ n ∧ i = .int .i64 k ∧ Hid (L5 w7 wr n k H)) (fun i _ => n - (intOf i).toNat)
    case atStart => exact ⟨0, Nat.zero_le _, rfl, (Below.refl _ _).alloc (Nat.le_refl _) _, (World.rowIs_made _ _ _ _).congr fun p _ => by rw [if_neg (by omega)]⟩
    case round =>
      obtain ⟨k, hk, rfl, HL⟩ := hrel
      by_cases hlt : k < n
      · obtain ⟨b, off, rfl, hbl, hcell⟩ := HA.out.2.2.2.2 (by omega)
        obtain ⟨d0, d1, _, _, _⟩ := hcell k hlt
        have hbb := HA5.out.b0.trans (HL.out.1.mono HA5.out.b0.size)
        have x0 := (hbb.cell (p := ⟨b, off + k * 5, none⟩) hbl).trans d0
        have x1 := (hbb.cell (p := ⟨b, off + k * 5 + 1, none⟩) hbl).trans d1
        have ok := HA.out.2.2.1 k hlt
        have okc := ok.c
        have os0 := ok.s0
        have os1 := ok.s1
        have hki : (0 : Int) ≤ (k : Int) := by omega
        have hkn : (k : Int) < (n : Int) := by omega
        clear hcell d0 d1 ok hbb
        go_upto_region 19 with fail
        obtain ⟨x, hx⟩ : ∃ x, findE es' (T k).c (T k).seq = x := ⟨_, rfl⟩
        go_cut [15, 16] (fun p v wx => ∃ x1, p = .pointer (some ⟨x1, 0, none⟩) ∧ v = .bool x.isSome ∧ Hid (LookIn wr wx x1 x))
        case first =>
          have hb6 : b < wr.heap.size := cell_lt x0
          have hbn1 : ¬ wr.heap.size = b := by omega
          have hbn2 : ¬ b = wr.heap.size := by omega
          have hbx0 : (wr.alloc box0).drew.cell? ⟨wr.heap.size, 0, none⟩ = some (.int .u64 0) := by simp [box0]
          have hbx1 : (wr.alloc box0).drew.cell? ⟨wr.heap.size, 1, none⟩ = some (.slice none 0 0) := by simp [box0]
          have hbxf : (wr.alloc box0).drew.frozen? ⟨wr.heap.size, 0, none⟩ = false := by simp [box0]
          have hbxg : (wr.alloc box0).drew.frozen? ⟨wr.heap.size, 1, none⟩ = false := by simp [box0]
          have HR : Hid (RepX wr B1 (fun q => B1 ≤ q ∧ q < B2) (fun q => q < B1) es' hs' (2 * n)) := HA5.out.r1.below HL.out.1
          go_region_with (first | (go_at_call 23; refine (zzLook (T k).c (T k).seq _ okc os0 os1 HG.out.held (HR.out.below (by go_grown))).mono ?_; rintro e w7 ⟨⟨a1, c1, rfl, hs1⟩, hb7⟩; rw [hx] at hs1 ⊢; first | (have hq0 := (hb7.cell (p := ⟨wr.heap.size, 0, none⟩) (by simp)).trans hbx0; have hq1 := (hb7.cell (p := ⟨wr.heap.size, 1, none⟩) (by simp)).trans hbx1; have hqf := (hb7.frozen (p := ⟨wr.heap.size, 0, none⟩) (by simp)).trans hbxf; have hqg := (hb7.frozen (p := ⟨wr.heap.size, 1, none⟩) (by simp)).trans hbxg; have hql := cell_lt hq0) | skip))
          all_goals (go_wp2_with fail; go_meet; case rel => first | exact ⟨_, rfl, rfl, LookIn.end1 ((Below.refl _ _).drew.trans hb7) hs1⟩ | exact ⟨_, rfl, rfl, LookIn.end2 hb7 hs1⟩)
        case rest =>
          obtain ⟨w8, rfl⟩ : ∃ w8 : World, w8 = wc := ⟨_, rfl⟩
          obtain ⟨y1, rfl, rfl, HL1⟩ := hcut
          have hB8 := HL1.out.choose_spec.choose_spec.2.2.2.1
          have hrow8 := HL.out.2.of_block (hB8.block _ HL.out.2.lt)
          have hcq := hrow8.cell (i := k) hlt
          have hfq := hrow8.frozen k
          have HROW := hide hrow8
          have HB8 := hide (HL.out.1.trans (hB8.mono HL.out.1.size))
          rw [if_neg (by omega)] at hcq
          clear hB8 hrow8 x0 x1
          go_wp2_with fail
          refine ⟨⟨k + 1, by omega, by go_num, HB8.out.setCell (Nat.le_refl _) _, (HROW.out.set k _).congr fun p _ => ?_⟩, by simp [intOf]; omega⟩
          show (if p = k then _ else Value.bool (if p < k then H p else false)) = Value.bool (if p < k + 1 then H p else false)
          by_cases hpk : p = k
          · subst hpk
            rw [if_pos rfl, if_pos (by omega), HH.out, hx]
          · rw [if_neg hpk]
            by_cases hpl : p < k
            · rw [if_pos hpl, if_pos (by omega)]
            · rw [if_neg hpl, if_neg (by omega)]
      · obtain rfl : k = n := by omega
        have hP := HA5.out.p5 HL.out.1 (HL.out.2.congr (g := fun p => .bool (H p)) (fun p hp => by rw [if_pos hp]))
        have HP := hide hP
        clear hP HL
        go_wp2_with fail
        refine (zzDropG g va wr hg a0 a1 HG.out (by omega) (fun k hk h' => ?_) (fun k hk => .inr hk) (by omega) HP.out.r1).mono ?_
        · have := HP.out.z1; have := HP.out.z2; have := HP.out.z3; omega
        rintro e w8 ⟨rfl, bk, bf, blk, hR, hT, hK⟩
        have HP8 := hide (HP.out.tw (.inr ⟨bk, bf, blk, hR⟩) hT hK)
        have HG8 := hide (HG.out.drop hg a0 a1)
        clear hR hT hK
        have hz8 := HP8.out.z4
        go_wp2_with fail
        refine (zzDropG g vb w8 hg b0 b1 HG8.out (by omega) (fun k hk h' => ?_) (fun k hk => .inr (by omega)) (by omega) HP8.out.r1).mono ?_
        · have := HP8.out.z1; have := HP8.out.z2; have := HP8.out.z3; omega
        rintro e w9 ⟨rfl, bk, bf, blk, hR, hT, hK⟩
        have hP9 := HP8.out.tw (.inr ⟨bk, bf, blk, hR⟩) hT hK
        rw [dropE_twice, dropH_twice, HHI.out] at hP9
        have HP9 := hide hP9
        clear hR hT hK hP9 HP8 HP HG8 hz8
        go_wp2_with fail
        refine (zzDropG g hi w9 hg hgr.1 hgr.2 HG.out (by omega) (fun k hk h' => ?_) (fun k hk => .inr hk) (by omega) HP9.out.re2).mono ?_
        · have := HP9.out.z1; have := HP9.out.z2; have := HP9.out.z3; have := HP9.out.z4; have := hk.1; omega
        rintro e w10 ⟨rfl, bk, bf, blk, hR, hT, hK⟩
        have HF5 := hide (HP9.out.fin (.inr ⟨bk, bf, blk, hR⟩) hT)
        have HG9 := hide (HG.out.drop hg hgr.1 hgr.2)
        clear hR hT hK
        obtain ⟨S1, V1, S2, V2, N1, N2, HF6⟩ : ∃ S1 V1 S2 V2 N1 N2, Hid (F5 w1 w10 B1 B2 w7.heap.size k H S1 V1 S2 V2 (dropE es' g hi) (dropH hs' g hi) N1 N2) := ⟨_, _, _, _, _, _, HF5.out⟩
        clear HF5 HP9
        go_wp2_with fail
        refine (zzSameState a k c T A K g w10 hg (by omega) (HA.out.below HF6.out.b0) HG9.out.held HG9.out.byt HF6.out.r1 HF6.out.r2).mono ?_
        rintro e w11 ⟨rfl, hB11⟩
        have HF7 := hide (HF6.out.grow hB11)
        clear hB11 HF6
        go_upto_if 106 with fail
        go_cut [17] (fun v wx => v = .int .u64 (gr f hi) ∧ wx = w11)
        case first =>
          by_cases t3 : f < hi
          · go_wp2
            go_meet
            case rel => exact ⟨by rw [show gr f hi = hi by unfold gr; rw [if_pos t3]], rfl⟩
          · go_wp2
            go_meet
            case rel => exact ⟨by rw [show gr f hi = f by unfold gr; rw [if_neg (by omega)]], rfl⟩
        case rest =>
          obtain ⟨w12, rfl⟩ : ∃ w12 : World, w12 = wc := ⟨_, rfl⟩
          obtain ⟨rfl, rfl⟩ := hcut
          have hfg : floorOf (dropH hs' g hi) g = gr f hi := by rw [floor_gr, HF.out]
          go_wp2_with fail
          refine (zzFloor g w12 hg HF7.out.r1).mono ?_
          rintro e w13 ⟨rfl, rfl⟩
          rw [hfg]
          clear hfg
          go_wp2_with fail
          go_loopw [18] (fun i wr => ∃ j : Nat, j ≤ k ∧ i = .int .i64 j ∧ Hid (F5 w1 wr B1 B2 w7.heap.size k H S1 V1 S2 V2 (dropE es' g hi) (dropH hs' g hi) N1 N2)) (fun i _ => k - (intOf i).toNat)
          case atStart => exact ⟨0, Nat.zero_le _, rfl, HF7⟩
          case round =>
            clear hgr
            obtain ⟨j, hj, rfl, HF8⟩ := hrel
            by_cases hjk : j < k
            · obtain ⟨b, off, rfl, hbl, hcell⟩ := HA.out.2.2.2.2 (by omega)
              obtain ⟨d0, d1, _, _, _⟩ := hcell j hjk
              have x0 := (HF8.out.b0.cell (p := ⟨b, off + j * 5, none⟩) hbl).trans d0
              have x1 := (HF8.out.b0.cell (p := ⟨b, off + j * 5 + 1, none⟩) hbl).trans d1
              have ok := HA.out.2.2.1 j hjk
              have okc := ok.c
              have os0 := ok.s0
              have os1 := ok.s1
              have hki : (0 : Int) ≤ (j : Int) := by omega
              have hkn : (j : Int) < (k : Int) := by omega
              have D0 := hide d0
              have D1 := hide d1
              clear hcell d0 d1 ok
              go_upto_region 34 with fail
              obtain ⟨x, hx⟩ : ∃ x, findE (dropE es' g hi) (T j).c (T j).seq = x := ⟨_, rfl⟩
              go_cut [19, 20] (fun p v wx => ∃ x1, p = .pointer (some ⟨x1, 0, none⟩) ∧ v = .bool x.isSome ∧ Hid (LookIn wr wx x1 x))
              case first =>
                have hb6 : b < wr.heap.size := cell_lt x0
                have hbn1 : ¬ wr.heap.size = b := by omega
                have hbn2 : ¬ b = wr.heap.size := by omega
                have hbx0 : (wr.alloc box0).drew.cell? ⟨wr.heap.size, 0, none⟩ = some (.int .u64 0) := by simp [box0]
                have hbx1 : (wr.alloc box0).drew.cell? ⟨wr.heap.size, 1, none⟩ = some (.slice none 0 0) := by simp [box0]
                have hbxf : (wr.alloc box0).drew.frozen? ⟨wr.heap.size, 0, none⟩ = false := by simp [box0]
                have hbxg : (wr.alloc box0).drew.frozen? ⟨wr.heap.size, 1, none⟩ = false := by simp [box0]
                go_region_with (first | (go_at_call 23; refine (zzLook (T j).c (T j).seq _ okc os0 os1 HG9.out.held (HF8.out.r1.below (by go_grown))).mono ?_; rintro e w7 ⟨⟨a1, c1, rfl, hs1⟩, hb7⟩; rw [hx] at hs1 ⊢; first | (have hq0 := (hb7.cell (p := ⟨wr.heap.size, 0, none⟩) (by simp)).trans hbx0; have hq1 := (hb7.cell (p := ⟨wr.heap.size, 1, none⟩) (by simp)).trans hbx1; have hqf := (hb7.frozen (p := ⟨wr.heap.size, 0, none⟩) (by simp)).trans hbxf; have hqg := (hb7.frozen (p := ⟨wr.heap.size, 1, none⟩) (by simp)).trans hbxg; have hql := cell_lt hq0) | skip))
                all_goals (go_wp2_with fail; go_meet; case rel => first | exact ⟨_, rfl, rfl, LookIn.end1 ((Below.refl _ _).drew.trans hb7) hs1⟩ | exact ⟨_, rfl, rfl, LookIn.end2 hb7 hs1⟩)
              case rest =>
                obtain ⟨w8, rfl⟩ : ∃ w8 : World, w8 = wc := ⟨_, rfl⟩
                obtain ⟨y1, rfl, rfl, HL1⟩ := hcut
                have HF9 := hide (HF8.out.grow HL1.out.choose_spec.choose_spec.2.2.2.1)
                have x0 := (HF9.out.b0.cell (p := ⟨b, off + j * 5, none⟩) hbl).trans D0.out
                have x1 := (HF9.out.b0.cell (p := ⟨b, off + j * 5 + 1, none⟩) hbl).trans D1.out
                have hcq := HF9.out.row j hjk
                clear HL1 HF8
                rw [findE_dropE] at hx
                by_cases e1 : (T j).c = g
                · have e1' := beqS_true e1
                  by_cases e2 : (T j).seq < hi
                  · rw [if_pos ⟨e1, e2⟩] at hx
                    subst hx
                    go_wp2_with fail
                    exact ⟨⟨j + 1, by omega, by go_num, HF9.out⟩, by simp [intOf]; omega⟩
                  · rw [if_neg (fun h => e2 h.2)] at hx
                    have hxs : x.isSome = H j := by rw [HH.out, hx]
                    obtain ⟨b0, hb0⟩ : ∃ b0, H j = b0 := ⟨_, rfl⟩
                    rw [hb0] at hcq hxs
                    rw [hxs]
                    clear hx hxs hb0
                    cases b0
                    all_goals
                      go_wp2_with fail
                      exact ⟨⟨j + 1, by omega, by go_num, HF9.out⟩, by simp [intOf]; omega⟩
                · have e1' := beqS_false e1
                  rw [if_neg (fun h => e1 h.1)] at hx
                  have hxs : x.isSome = H j := by rw [HH.out, hx]
                  obtain ⟨b0, hb0⟩ : ∃ b0, H j = b0 := ⟨_, rfl⟩
                  rw [hb0] at hcq hxs
                  rw [hxs]
                  clear hx hxs hb0
                  cases b0
                  all_goals
                    go_wp2_with fail
                    exact ⟨⟨j + 1, by omega, by go_num, HF9.out⟩, by simp [intOf]; omega⟩
            · go_wp2
              go_ret
              exact ⟨rfl, HF8.out.b0⟩
end Go.Proofs.Qxb6617896a
