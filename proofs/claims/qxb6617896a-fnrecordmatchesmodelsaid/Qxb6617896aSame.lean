import Derived.Test.Qxb6617896aLook
import Derived.Test.Qxb6617896aPlay
namespace Go.Proofs.Qxb6617896a
open Go.ChangeShapes Go.WideShapes Go.ChangeAt Go.RowKit
attribute [local go_sem ↓] Go.wp_at_zero Go.wp_at_succ

theorem sameEq (a0 : Option Addr) (l : List Int) (c0 : Nat) (a1 : Option Addr) (c1 : Nat) (w : World) (h0 : Sl w a0 l.length c0 (fun j => .int .u8 (l.getD j 0))) (h1 : Sl w a1 l.length c1 (fun j => .int .u8 (l.getD j 0))) (hn : l.length ≤ 1048576) :
    Calls Try.prog 31 #[.slice a0 l.length c0, .slice a1 l.length c1] w fun e w' => e = .returned (.bool true) ∧ ∃ m, w' = w.drewN m := by
  refine (sameBytes a0 l c0 a1 l c1 w h0 h1 hn hn).mono ?_
  rintro e w' ⟨⟨r, rfl, hr⟩, hq⟩
  obtain rfl : r = true := hr.2 rfl
  exact ⟨rfl, hq⟩

theorem val_len {es : List Ent} (hb : bytesE es ≤ 1048576) (c : ByteArray) (s : Int) : (valOf (findE es c s)).length ≤ 1048576 := by
  cases h : findE es c s with
  | none => simp [valOf]
  | some y =>
    have := len_le_bytesE (findE_some h).1
    simp only [valOf]
    omega

section
variable {r1 r2 : Nat} {S1 V1 S2 V2 : Nat → Prop} {es : List Ent} {hs : List Hold} {N1 N2 : Nat}

/-- Both states stand, the steps too. -/
def BothAt (w0 w : World) (r1 r2 : Nat) (S1 V1 S2 V2 : Nat → Prop) (es : List Ent) (hs : List Hold) (N1 N2 : Nat) : Prop :=
  Below w0.heap.size w0 w ∧ RepX w r1 S1 V1 es hs N1 ∧ RepX w r2 S2 V2 es hs N2

theorem BothAt.grow {w0 w w' : World} (h : BothAt w0 w r1 r2 S1 V1 S2 V2 es hs N1 N2) (hb : Below w.heap.size w w') : BothAt w0 w' r1 r2 S1 V1 S2 V2 es hs N1 N2 :=
  ⟨h.1.trans (hb.mono h.1.size), h.2.1.below hb, h.2.2.below hb⟩

set_option maxHeartbeats 8000000 in
set_option maxRecDepth 100000 in
/-- zzSameState, of one state. -/
theorem zzSameState (a : Option Addr) (n c : Nat) (T : Nat → Stp) (A : Nat → Option Addr) (K : Nat → Nat) (g : ByteArray) (w : World) (hg : g.size ≤ maxLen) (hn : n ≤ 4096) (hS : StepsAt w a n c T A K) (hh : ∀ e ∈ es, (holdOf hs e.c).isSome) (hby : bytesE es ≤ 1048576) (h1 : RepX w r1 S1 V1 es hs N1) (h2 : RepX w r2 S2 V2 es hs N2) :
    Calls Try.prog 25 #[.pointer (some ⟨r1, 0, none⟩), .pointer (some ⟨r2, 0, none⟩), .slice a n c, .string g] w fun e w' => e = .returned (.bool true) ∧ Below w.heap.size w w' := by
  have H1 := hide h1
  have H2 := hide h2
  have HH := hide hh
  have HS := hide hS
  have hnc := hS.1
  have hcm := hS.2.1
  unfold maxLen at hcm
  clear h1 h2 hh hS
  go_enter Try.func25, Try.ntmps25
  go_wp2_with fail
  refine (zzCoords w H1.out).mono ?_
  rintro e w1 ⟨rfl, rfl⟩
  go_wp2_with fail
  refine (zzCoords w1 H2.out).mono ?_
  rintro e w2 ⟨rfl, rfl⟩
  go_wp2_with fail
  refine (zzBytesOf w2 H1.out).mono ?_
  rintro e w3 ⟨rfl, rfl⟩
  go_wp2_with fail
  refine (zzBytesOf w3 H2.out).mono ?_
  rintro e w4 ⟨rfl, rfl⟩
  go_wp2_with fail
  refine (zzSameHolder g w4 hg HH.out H1.out H2.out).mono ?_
  rintro e w5 ⟨rfl, rfl⟩
  go_wp2_with fail
  go_loopw [9] (fun i wr => ∃ k : Nat, k ≤ n ∧ i = .int .i64 k ∧ Hid (BothAt w5 wr r1 r2 S1 V1 S2 V2 es hs N1 N2)) (fun i _ => n - (intOf i).toNat)
  case atStart => exact ⟨0, Nat.zero_le _, rfl, Below.refl _ _, H1.out, H2.out⟩
  case round =>
    obtain ⟨k, hk, rfl, HB⟩ := hrel
    by_cases hlt : k < n
    · obtain ⟨b, off, rfl, hbl, hcell⟩ := HS.out.2.2.2.2 (by omega)
      obtain ⟨d0, d1, _, _, _⟩ := hcell k hlt
      have x0 := (HB.out.1.cell (p := ⟨b, off + k * 5, none⟩) hbl).trans d0
      have x1 := (HB.out.1.cell (p := ⟨b, off + k * 5 + 1, none⟩) hbl).trans d1
      have ok := HS.out.2.2.1 k hlt
      have okc := ok.c
      have os0 := ok.s0
      have os1 := ok.s1
      have hki : (0 : Int) ≤ (k : Int) := by omega
      have hkn : (k : Int) < (n : Int) := by omega
      have D0 := hide d0
      have D1 := hide d1
      have hvl := val_len hby (T k).c (T k).seq
      clear hcell d0 d1 ok
      go_wp2_with fail
      refine (zzSameHolder (T k).c wr okc HH.out HB.out.2.1 HB.out.2.2).mono ?_
      rintro e w6 ⟨rfl, rfl⟩
      go_upto_region 10 with fail
      obtain ⟨x, hx⟩ : ∃ x, findE es (T k).c (T k).seq = x := ⟨_, rfl⟩
      go_cut [10, 11] (fun p v wx => ∃ x1, p = .pointer (some ⟨x1, 0, none⟩) ∧ v = .bool x.isSome ∧ Hid (LookIn w6 wx x1 x))
      case first =>
        have hb6 : b < w6.heap.size := cell_lt x0
        have hbn1 : ¬ w6.heap.size = b := by omega
        have hbn2 : ¬ b = w6.heap.size := by omega
        have hbx0 : (w6.alloc box0).drew.cell? ⟨w6.heap.size, 0, none⟩ = some (.int .u64 0) := by simp [box0]
        have hbx1 : (w6.alloc box0).drew.cell? ⟨w6.heap.size, 1, none⟩ = some (.slice none 0 0) := by simp [box0]
        have hbxf : (w6.alloc box0).drew.frozen? ⟨w6.heap.size, 0, none⟩ = false := by simp [box0]
        have hbxg : (w6.alloc box0).drew.frozen? ⟨w6.heap.size, 1, none⟩ = false := by simp [box0]
        go_region_with (first | (go_at_call 23; refine (zzLook (T k).c (T k).seq _ okc os0 os1 HH.out (HB.out.2.1.below (by go_grown))).mono ?_; rintro e w7 ⟨⟨a1, c1, rfl, hs1⟩, hb7⟩; rw [hx] at hs1 ⊢; first | (have hq0 := (hb7.cell (p := ⟨w6.heap.size, 0, none⟩) (by simp)).trans hbx0; have hq1 := (hb7.cell (p := ⟨w6.heap.size, 1, none⟩) (by simp)).trans hbx1; have hqf := (hb7.frozen (p := ⟨w6.heap.size, 0, none⟩) (by simp)).trans hbxf; have hqg := (hb7.frozen (p := ⟨w6.heap.size, 1, none⟩) (by simp)).trans hbxg; have hql := cell_lt hq0) | skip))
        all_goals (go_wp2_with fail; go_meet; case rel => first | exact ⟨_, rfl, rfl, LookIn.end1 ((Below.refl _ _).drew.trans hb7) hs1⟩ | exact ⟨_, rfl, rfl, LookIn.end2 hb7 hs1⟩)
      case rest =>
        obtain ⟨w8, rfl⟩ : ∃ w8 : World, w8 = wc := ⟨_, rfl⟩
        obtain ⟨y1, rfl, rfl, HL1⟩ := hcut
        have hB8 := HL1.out.choose_spec.choose_spec.2.2.2.1
        have x0 := (hB8.cell (p := ⟨b, off + k * 5, none⟩) (cell_lt x0)).trans x0
        have x1 := (hB8.cell (p := ⟨b, off + k * 5 + 1, none⟩) (cell_lt x1)).trans x1
        have HB8 := hide (HB.out.grow hB8)
        clear hB8
        go_upto_region 11 with fail
        go_cut [12, 13] (fun p v wx => ∃ x1, p = .pointer (some ⟨x1, 0, none⟩) ∧ v = .bool x.isSome ∧ Hid (LookIn w8 wx x1 x))
        case first =>
          have hb6 : b < w8.heap.size := cell_lt x0
          have hbn1 : ¬ w8.heap.size = b := by omega
          have hbn2 : ¬ b = w8.heap.size := by omega
          have hbx0 : (w8.alloc box0).drew.cell? ⟨w8.heap.size, 0, none⟩ = some (.int .u64 0) := by simp [box0]
          have hbx1 : (w8.alloc box0).drew.cell? ⟨w8.heap.size, 1, none⟩ = some (.slice none 0 0) := by simp [box0]
          have hbxf : (w8.alloc box0).drew.frozen? ⟨w8.heap.size, 0, none⟩ = false := by simp [box0]
          have hbxg : (w8.alloc box0).drew.frozen? ⟨w8.heap.size, 1, none⟩ = false := by simp [box0]
          go_region_with (first | (go_at_call 23; refine (zzLook (T k).c (T k).seq _ okc os0 os1 HH.out (HB8.out.2.2.below (by go_grown))).mono ?_; rintro e w7 ⟨⟨a1, c1, rfl, hs1⟩, hb7⟩; rw [hx] at hs1 ⊢; first | (have hq0 := (hb7.cell (p := ⟨w8.heap.size, 0, none⟩) (by simp)).trans hbx0; have hq1 := (hb7.cell (p := ⟨w8.heap.size, 1, none⟩) (by simp)).trans hbx1; have hqf := (hb7.frozen (p := ⟨w8.heap.size, 0, none⟩) (by simp)).trans hbxf; have hqg := (hb7.frozen (p := ⟨w8.heap.size, 1, none⟩) (by simp)).trans hbxg; have hql := cell_lt hq0) | skip))
          all_goals (go_wp2_with fail; go_meet; case rel => first | exact ⟨_, rfl, rfl, LookIn.end1 ((Below.refl _ _).drew.trans hb7) hs1⟩ | exact ⟨_, rfl, rfl, LookIn.end2 hb7 hs1⟩)
        case rest =>
          obtain ⟨w9, rfl⟩ : ∃ w9 : World, w9 = wc := ⟨_, rfl⟩
          obtain ⟨y2, rfl, rfl, HL2⟩ := hcut
          have hB9 := HL2.out.choose_spec.choose_spec.2.2.2.1
          obtain ⟨a1, c1, p0, p1, ps, _, pl⟩ := HL1.out.below hB9
          obtain ⟨a2, c2, q0, q1, qs, _, ql⟩ := HL2.out
          have HB9 := hide (HB8.out.grow hB9)
          have PS : Hid (∀ m, Sl (w9.drewN m) a1 (valOf x).length c1 (fun i => .int .u8 ((valOf x).getD i 0))) := fun m => ps.below (below_drewN (Below.refl _ _) m)
          have QS : Hid (∀ m, Sl (w9.drewN m) a2 (valOf x).length c2 (fun i => .int .u8 ((valOf x).getD i 0))) := fun m => qs.below (below_drewN (Below.refl _ _) m)
          rw [hx] at hvl
          clear hB9 ps qs x0 x1 HL1 HL2
          obtain ⟨b0, hb0⟩ : ∃ b0, x.isSome = b0 := ⟨_, rfl⟩
          obtain ⟨i0, hi0⟩ : ∃ i0, idxOf x = i0 := ⟨_, rfl⟩
          rw [hi0] at p0 q0
          rw [hb0]
          clear hb0 hi0
          cases b0
          all_goals
            go_wp2_with fail
            refine (sameEq a1 (valOf x) c1 a2 c2 w9 (PS.out 0) (QS.out 0) hvl).mono ?_
            rintro e w10 ⟨rfl, nq, rfl⟩
            have HB10 := hide (HB9.out.grow (below_drewN (Below.refl _ _) nq))
            go_wp2_with fail
            exact ⟨⟨k + 1, by omega, by go_num, HB10.out⟩, by simp [intOf]; omega⟩
    · obtain rfl : k = n := by omega
      go_wp2
      go_ret
      exact ⟨rfl, HB.out.1⟩
end
end Go.Proofs.Qxb6617896a
