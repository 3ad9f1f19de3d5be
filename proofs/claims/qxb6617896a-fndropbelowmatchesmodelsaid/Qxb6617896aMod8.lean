import Derived.Test.Qxb6617896aMod7
import Derived.Test.Qxb6617896aSame
namespace Go.Proofs.Qxb6617896a
open Go.ChangeShapes Go.WideShapes Go.ChangeAt Go.RowKit
attribute [local go_sem ↓] Go.wp_at_zero Go.wp_at_succ

section
variable {rb mb base : Nat} {S V : Nat → Prop} {ms : List ME} {hs : List Hold} {N L : Nat}

set_option maxRecDepth 100000 in
/-- zzGoneUnlessHeld. -/
theorem zzGone (c : ByteArray) (w : World) (hc : c.size ≤ maxLen) (hl : hs.length ≤ 1048576) (hh : ∀ e ∈ ms.map ME.e, (holdOf hs e.c).isSome) (h1 : RepX w rb S V (ms.map ME.e) hs N) (h2 : ModX w mb base ms hs) :
    Calls Try.prog 47 #[.pointer (some ⟨rb, 0, none⟩), .pointer (some ⟨mb, 0, none⟩), .string c] w fun e w' => e = .returned (.bool true) ∧ w' = w := by
  have H1 := hide h1
  have H2 := hide h2
  have HH := hide hh
  clear h1 h2 hh
  go_enter Try.func47, Try.ntmps47
  go_wp2_with fail
  refine (zzHolderAt c w hl H2.out).mono ?_
  rintro e w1 ⟨hr, rfl⟩
  rcases hr with ⟨hno, rfl⟩ | ⟨i, hi, hic, rfl⟩
  · go_wp2_with fail
    refine (zzHoldsOf c w1 hc (cnt_zero HH.out) H1.out).mono ?_
    rintro e w2 ⟨rfl, rfl⟩
    have hf : floorOf hs c = 0 := by unfold floorOf; rw [hno]
    rw [hno]
    go_wp2_with fail
    refine (zzFloor c w2 hc H1.out).mono ?_
    rintro e w3 ⟨rfl, rfl⟩
    rw [hf]
    go_wp2
    go_ret
    exact ⟨rfl, rfl⟩
  · go_wp2
    go_ret
    exact ⟨rfl, rfl⟩

theorem coordsQ (w : World) (h : RepX w rb S V (ms.map ME.e) hs N) :
    Calls Try.prog 32 #[.pointer (some ⟨rb, 0, none⟩)] w fun e w' => e = .returned (.int .i64 (hs.length : Int)) ∧ ∃ m, w' = w.drewN m := by
  refine (zzCoords w h).mono ?_
  rintro e w' ⟨rfl, rfl⟩
  exact ⟨rfl, 0, rfl⟩
theorem floorQ (c : ByteArray) (w : World) (hc : c.size ≤ maxLen) (h : RepX w rb S V (ms.map ME.e) hs N) :
    Calls Try.prog 22 #[.pointer (some ⟨rb, 0, none⟩), .string c] w fun e w' => e = .returned (.int .u64 (floorOf hs c)) ∧ ∃ m, w' = w.drewN m := by
  refine (zzFloor c w hc h).mono ?_
  rintro e w' ⟨rfl, rfl⟩
  exact ⟨rfl, 0, rfl⟩

/-- All that zzSame reads stands. -/
structure Both (w : World) (rb mb base : Nat) (S V : Nat → Prop) (ms : List ME) (hs : List Hold) (N : Nat) : Prop where
  r : RepX w rb S V (ms.map ME.e) hs N
  m : ModX w mb base ms hs
  v : ∀ m ∈ ms, MOk w m
theorem Both.below {w w' : World} (h : Both w rb mb base S V ms hs N) (hb : Below w.heap.size w w') : Both w' rb mb base S V ms hs N := ⟨h.r.below hb, h.m.below hb, fun m hm => (h.v m hm).below hb⟩

/-- zzSame's loops. -/
def Sam (w0 wr : World) (rb mb base : Nat) (S V : Nat → Prop) (ms : List ME) (hs : List Hold) (N : Nat) : Prop := Below w0.heap.size w0 wr ∧ Both wr rb mb base S V ms hs N
theorem Sam.grow {w0 wr w' : World} (h : Sam w0 wr rb mb base S V ms hs N) (hb : Below wr.heap.size wr w') : Sam w0 w' rb mb base S V ms hs N := ⟨h.1.trans (hb.mono h.1.size), h.2.below hb⟩

set_option maxHeartbeats 8000000 in
set_option maxRecDepth 100000 in
/-- zzSame. -/
theorem zzSame (a : Option Addr) (n c : Nat) (T : Nat → Stp) (A : Nat → Option Addr) (K : Nat → Nat) (g : ByteArray) (w : World) (hg : g.size ≤ maxLen) (hn : n ≤ 4096) (hS : StepsAt w a n c T A K) (hG : GoodD (ms.map ME.e) hs L) (hL : L ≤ 1048576) (h : Both w rb mb base S V ms hs N) :
    Calls Try.prog 28 #[.pointer (some ⟨rb, 0, none⟩), .pointer (some ⟨mb, 0, none⟩), .slice a n c, .string g] w fun e w' => e = .returned (.bool true) ∧ Below w.heap.size w w' := by
  have HB := hide h
  have HG := hide hG
  have HS := hide hS
  have hnc := hS.1
  have hcm := hS.2.1
  have hhl : hs.length ≤ 1048576 := Nat.le_trans hG.len hL
  have hml : ms.length ≤ 4096 := by have := hG.elen; simpa using this
  have hby := hG.byt
  unfold maxLen at hcm
  have HRQ : Hid (∀ q, RepX (w.drewN q) rb S V (ms.map ME.e) hs N) := fun q => h.r.below (below_drewN (Below.refl _ _) q)
  obtain ⟨ea, ec, ha, hc, hM⟩ := h.m
  have c1 := hM.c1
  have hmlt := hM.lt
  clear h hG hS hM
  go_enter Try.func28, Try.ntmps28
  go_wp2_with fail
  go_quiet (first | (go_at_call 32; refine Calls.quiet_of (coordsQ _ (HRQ.out _))))
  have HS1 : Hid (Sam w (w.drewN nq) rb mb base S V ms hs N) := ⟨below_drewN (Below.refl _ _) nq, HB.out.below (below_drewN (Below.refl _ _) nq)⟩
  obtain ⟨w1, hw1⟩ : ∃ w1, w1 = w.drewN nq := ⟨_, rfl⟩
  rw [← hw1] at HS1 ⊢
  clear hw1 c1 hmlt HRQ
  go_wp2_with fail
  refine (zzBytesOf w1 HS1.out.2.r).mono ?_
  rintro e w2 ⟨rfl, rfl⟩
  go_wp2_with fail
  refine (zzModelBytes w2 (by omega) hby HS1.out.2.m).mono ?_
  rintro e w3 ⟨rfl, rfl⟩
  go_wp2_with fail
  go_loopw [9] (fun i wr => ∃ k : Nat, k ≤ hs.length ∧ i = .int .i64 (k : Int) ∧ Hid (Sam w wr rb mb base S V ms hs N)) (fun i _ => hs.length - (intOf i).toNat)
  case atStart => exact ⟨0, Nat.zero_le _, rfl, HS1⟩
  case round =>
    obtain ⟨k, hk, rfl, HS2⟩ := hrel
    obtain ⟨ea, ec, ha, hc, hM⟩ := HS2.out.2.m
    have c1 := hM.c1
    have hmlt := hM.lt
    by_cases hlt : k < hs.length
    · obtain ⟨gh, rfl, hgb, hgl, hgm, hcell, _⟩ := hM.hform (by omega)
      obtain ⟨d0, d1, d2⟩ := hcell k hlt
      have hnm := HG.out.nm _ (hAt_mem hlt)
      have hf : Hid (floorOf hs (hAt hs k).c = (hAt hs k).floor) := floor_at HG.out.nodH hlt rfl
      have ho : Hid ((holdOf hs (hAt hs k).c).isSome = true) := hold_some_at hlt rfl
      have hki : (0 : Int) ≤ (k : Int) := by omega
      have hkn : (k : Int) < (hs.length : Int) := by omega
      clear hcell hM
      go_wp2_with fail
      refine (zzHoldsOf (hAt hs k).c wr hnm (cnt_zero HG.out.held) HS2.out.2.r).mono ?_
      rintro e w4 ⟨rfl, rfl⟩
      rw [ho.out]
      go_wp2_with fail
      refine (zzModelCount (hAt hs k).c w4 (by omega) HS2.out.2.m).mono ?_
      rintro e w5 ⟨rfl, rfl⟩
      have HRQ : Hid (∀ q, Calls Try.prog 22 #[.pointer (some ⟨rb, 0, none⟩), .string (hAt hs k).c] (w5.drewN q) fun e w' => e = .returned (.int .u64 (hAt hs k).floor) ∧ ∃ m, w' = (w5.drewN q).drewN m) := fun q => by
        rw [← hf.out]
        exact floorQ _ _ hnm (HS2.out.2.r.below (below_drewN (Below.refl _ _) q))
      go_wp2_with fail
      go_quiet (first | (go_at_call 22; refine Calls.quiet_of (HRQ.out _)))
      have HS3 := hide (HS2.out.grow (below_drewN (Below.refl _ _) nq))
      go_wp2_with fail
      exact ⟨⟨k + 1, by omega, by go_num, HS3⟩, by simp [intOf]; omega⟩
    · obtain rfl : k = hs.length := by omega
      clear hM
      go_wp2_with fail
      go_loopw [13] (fun i wr => ∃ k : Nat, k ≤ ms.length ∧ i = .int .i64 (k : Int) ∧ Hid (Sam w wr rb mb base S V ms hs N)) (fun i _ => ms.length - (intOf i).toNat)
      case atStart => exact ⟨0, Nat.zero_le _, rfl, HS2⟩
      case round =>
        clear c1 hmlt HS2
        obtain ⟨k, hk, rfl, HS4⟩ := hrel
        obtain ⟨ea, ec, ha, hc, hM⟩ := HS4.out.2.m
        have c0 := hM.c0
        have hmlt := hM.lt
        by_cases hlt : k < ms.length
        · obtain ⟨ge, rfl, hgb, hgl, hgm, hcell, _⟩ := hM.eform (by omega)
          obtain ⟨d0, d1, d2, d3⟩ := hcell k hlt
          have hmo := HS4.out.2.v _ (mAt_mem hlt)
          obtain ⟨y, HY⟩ : ∃ y, Hid (mAt ms k = y) := ⟨_, rfl⟩
          have hfe : findE (ms.map ME.e) y.e.c y.e.seq = some y.e := by
            rw [← HY.out]
            exact findE_of_mem HG.out.nodE (List.mem_map.2 ⟨_, mAt_mem hlt, rfl⟩)
          rw [HY.out] at d0 d1 d2 d3 hmo
          have hvl : y.e.val.length ≤ 1048576 := by
            have := len_le_bytesE (findE_some hfe).1
            omega
          have okc := hmo.2.1
          have os0 := hmo.2.2.1
          have os1 := hmo.2.2.2
          have HMO := hide hmo
          have HFE := hide hfe
          have HM := hide hM
          have hki : (0 : Int) ≤ (k : Int) := by omega
          have hkn : (k : Int) < (ms.length : Int) := by omega
          clear hcell hM hmo hfe
          go_upto_region 17 with fail
          go_cut [14, 15] (fun p v wx => ∃ x1, p = .pointer (some ⟨x1, 0, none⟩) ∧ v = .bool true ∧ Hid (LookIn wr wx x1 (some y.e)))
          case first =>
            have hbn1 : ¬ wr.heap.size = mb := by omega
            have hbn2 : ¬ mb = wr.heap.size := by omega
            have hbn3 : ¬ wr.heap.size = ge := by omega
            have hbn4 : ¬ ge = wr.heap.size := by omega
            have hbx0 : (wr.alloc box0).drew.cell? ⟨wr.heap.size, 0, none⟩ = some (.int .u64 0) := by simp [box0]
            have hbx1 : (wr.alloc box0).drew.cell? ⟨wr.heap.size, 1, none⟩ = some (.slice none 0 0) := by simp [box0]
            have hbxf : (wr.alloc box0).drew.frozen? ⟨wr.heap.size, 0, none⟩ = false := by simp [box0]
            have hbxg : (wr.alloc box0).drew.frozen? ⟨wr.heap.size, 1, none⟩ = false := by simp [box0]
            have zA0 : wr.drew.cell? ⟨mb, 0, none⟩ = some (.slice (some ⟨ge, 0, none⟩) ms.length ec) := c0
            have zA1 : wr.drew.cell? ⟨ge, k * 4, none⟩ = some (.string y.e.c) := d0
            have zA2 : wr.drew.cell? ⟨ge, k * 4 + 1, none⟩ = some (.int .u64 y.e.seq) := d1
            have zB0 : (wr.alloc box0).drew.cell? ⟨mb, 0, none⟩ = some (.slice (some ⟨ge, 0, none⟩) ms.length ec) := cell_over c0 _
            have zB1 : (wr.alloc box0).drew.cell? ⟨ge, k * 4, none⟩ = some (.string y.e.c) := cell_over d0 _
            have zB2 : (wr.alloc box0).drew.cell? ⟨ge, k * 4 + 1, none⟩ = some (.int .u64 y.e.seq) := cell_over d1 _
            go_wp2_with fail
            go_region_held3 (fun w' => w'.cell? ⟨mb, 0, none⟩ = some (.slice (some ⟨ge, 0, none⟩) ms.length ec) ∧ w'.cell? ⟨ge, k * 4, none⟩ = some (.string y.e.c) ∧ w'.cell? ⟨ge, k * 4 + 1, none⟩ = some (.int .u64 y.e.seq))
              (first | with_reducible exact ⟨zA0, zA1, zA2⟩ | with_reducible exact ⟨zB0, zB1, zB2⟩ | with_reducible exact ⟨v0, v1, v2⟩ | go_keep)
              (first | (go_at_call 23; refine (zzLook y.e.c y.e.seq _ okc os0 os1 HG.out.held (HS4.out.2.r.below (by go_grown))).mono ?_; rintro e w7 ⟨⟨a1, c1, rfl, hs1⟩, hb7⟩; rw [HFE.out] at hs1 ⊢; first | (have v0 := (hb7.cell (p := ⟨mb, 0, none⟩) (cell_lt zB0)).trans zB0; have v1 := (hb7.cell (p := ⟨ge, k * 4, none⟩) (cell_lt zB1)).trans zB1; have v2 := (hb7.cell (p := ⟨ge, k * 4 + 1, none⟩) (cell_lt zB2)).trans zB2; have hq0 := (hb7.cell (p := ⟨wr.heap.size, 0, none⟩) (cell_lt hbx0)).trans hbx0; have hq1 := (hb7.cell (p := ⟨wr.heap.size, 1, none⟩) (cell_lt hbx1)).trans hbx1; have hqf := (hb7.frozen (p := ⟨wr.heap.size, 0, none⟩) (cell_lt hbx0)).trans hbxf; have hqg := (hb7.frozen (p := ⟨wr.heap.size, 1, none⟩) (cell_lt hbx0)).trans hbxg; have hql := cell_lt hq0) | (have v0 := (hb7.cell (p := ⟨mb, 0, none⟩) (cell_lt zA0)).trans zA0; have v1 := (hb7.cell (p := ⟨ge, k * 4, none⟩) (cell_lt zA1)).trans zA1; have v2 := (hb7.cell (p := ⟨ge, k * 4 + 1, none⟩) (cell_lt zA2)).trans zA2)))
            all_goals (go_wp2_with fail; go_meet; case rel => first | exact ⟨_, rfl, rfl, LookIn.end1 (x := some y.e) ((Below.refl _ _).drew.trans hb7) hs1⟩ | exact ⟨_, rfl, rfl, LookIn.end2 (x := some y.e) hb7 hs1⟩)
          case rest =>
            obtain ⟨w8, rfl⟩ : ∃ w8 : World, w8 = wc := ⟨_, rfl⟩
            obtain ⟨x1, rfl, rfl, HL1⟩ := hcut
            obtain ⟨a1, c1, p0', p1', ps, hB8, pl⟩ := HL1.out
            have p0 : w8.cell? ⟨x1, 0, none⟩ = some (.int .u64 y.e.idx) := p0'
            have p1 : w8.cell? ⟨x1, 1, none⟩ = some (.slice a1 y.e.val.length c1) := p1'
            clear p0' p1'
            have HS5 := hide (HS4.out.grow hB8)
            have c0 := (hB8.cell (p := ⟨mb, 0, none⟩) hmlt).trans c0
            have d2 := (hB8.cell (p := ⟨ge, k * 4 + 2, none⟩) hgl).trans d2
            have d3 := (hB8.cell (p := ⟨ge, k * 4 + 3, none⟩) hgl).trans d3
            have hml8 : mb < w8.heap.size := Nat.lt_of_lt_of_le hmlt hB8.size
            have hgl8 : ge < w8.heap.size := Nat.lt_of_lt_of_le hgl hB8.size
            have PS : Hid (∀ q, Sl (w8.drewN q) a1 y.e.val.length c1 (fun i => .int .u8 (y.e.val.getD i 0))) := fun q => Sl.below (w := w8) ps (below_drewN (Below.refl _ _) q)
            have QS : Hid (∀ q, Sl (w8.drewN q) y.a y.e.val.length y.k (fun i => .int .u8 (y.e.val.getD i 0))) := fun q => (HMO.out.1.below hB8).below (below_drewN (Below.refl _ _) q)
            clear ps hB8 d0 d1 HL1 HS4 hmlt hgl
            go_wp2_with fail
            go_quiet (first | (go_at_call 31; refine Calls.quiet_of (sameEq a1 y.e.val c1 y.a y.k _ (PS.out _) (QS.out _) hvl)))
            have HS6 := hide (HS5.out.grow (below_drewN (Below.refl _ _) nq))
            go_wp2_with fail
            exact ⟨⟨k + 1, by omega, by go_num, HS6⟩, by simp [intOf]; omega⟩
        · obtain rfl : k = ms.length := by omega
          clear hM
          obtain ⟨wp, rfl⟩ : ∃ wp : World, wp = wr := ⟨_, rfl⟩
          go_wp2_with fail
          refine (zzGone g wp hg hhl HG.out.held HS4.out.2.r HS4.out.2.m).mono ?_
          rintro e w9 ⟨rfl, rfl⟩
          go_wp2_with fail
          go_loopw [16] (fun i wr => ∃ k : Nat, k ≤ n ∧ i = .int .i64 (k : Int) ∧ Hid (wr = w9)) (fun i _ => n - (intOf i).toNat)
          case atStart => exact ⟨0, Nat.zero_le _, rfl, rfl⟩
          case round =>
            obtain ⟨k, hk, rfl, HW⟩ := hrel
            obtain rfl := HW.out
            by_cases hlt : k < n
            · obtain ⟨b, off, rfl, hbl, hcell⟩ := HS.out.2.2.2.2 (by omega)
              obtain ⟨d0, _, _, _, _⟩ := hcell k hlt
              have x0 := (HS4.out.1.cell (p := ⟨b, off + k * 5, none⟩) hbl).trans d0
              have okc := (HS.out.2.2.1 k hlt).c
              have hki : (0 : Int) ≤ (k : Int) := by omega
              have hkn : (k : Int) < (n : Int) := by omega
              clear hcell d0 c0 hmlt
              go_wp2_with fail
              refine (zzGone (T k).c _ okc hhl HG.out.held HS4.out.2.r HS4.out.2.m).mono ?_
              rintro e w10 ⟨rfl, rfl⟩
              go_wp2_with fail
              exact ⟨⟨k + 1, by omega, by go_num, True.intro⟩, by simp [intOf]; omega⟩
            · go_wp2
              go_ret
              exact ⟨rfl, HS4.out.1⟩
end
end Go.Proofs.Qxb6617896a
