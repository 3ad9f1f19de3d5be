import Derived.Test.Qxb6618131aFields
import Derived.Deep.DeepCutAuto
namespace Go.Proofs.Qxb6618131a
open Go.ChangeShapes Go.WideShapes Go.ChangeAt Go.RowKit

theorem Try.info4 : (Try.prog.info? 4).map (fun i => (i.zero, i.size, i.bytes)) = some (some (.bool false), 1, 1) := by kernel_rfl

theorem hide {p : Prop} (h : p) : Hid p := h

theorem rowIs_drewN {w : World} {b t n : Nat} {f : Nat → Value} (h : w.rowIs b t n f) (q : Nat) : (w.drewN q).rowIs b t n f :=
  h.of_block ((below_drewN (Below.refl (b + 1) w) q).block b (by omega))

/-- Places of a table with rows of W: two of them are one only if both numbers are. -/
theorem place_inj {W i j i' j' : Nat} (hj : j < W) (hj' : j' < W) (h : i * W + j = i' * W + j') : i = i' ∧ j = j' := by
  have hi : i = i' := by
    rcases Nat.lt_trichotomy i i' with h1 | h1 | h1
    · have := Nat.mul_le_mul_right W (show i + 1 ≤ i' from h1)
      rw [Nat.succ_mul] at this
      omega
    · exact h1
    · have := Nat.mul_le_mul_right W (show i' + 1 ≤ i from h1)
      rw [Nat.succ_mul] at this
      omega
  subst hi
  exact ⟨rfl, by omega⟩

theorem place_lt {W i j m : Nat} (hj : j < W) (hi : i ≤ m) : i * W + j < (m + 1) * W := by
  have := Nat.mul_le_mul_right W hi
  rw [Nat.succ_mul]
  omega

/-- What a table of the answers holds. -/
def TabIs (H : Nat → ByteArray) (nh : Nat) (C : Nat → ByteArray) (opt : ByteArray → Bool) (whole : Bool) (W m d : Nat) (tab : Nat → Bool) : Prop :=
  ∀ i j, d ≤ i → i ≤ m → j < W → tab (i * W + j) = fit H nh C opt whole m (m - i) j

/-- A table comes back. -/
def RetTab (w w' : World) (H : Nat → ByteArray) (nh : Nat) (C : Nat → ByteArray) (opt : ByteArray → Bool) (whole : Bool) (m : Nat) (e : Ending) : Prop :=
  ∃ B tab, e = .returned (.slice (some ⟨B, 0, none⟩) ((m + 1) * (nh + 1)) ((m + 1) * (nh + 1))) ∧ w.heap.size ≤ B ∧ w'.rowIs B 4 ((m + 1) * (nh + 1)) (fun q => .bool (tab q)) ∧ TabIs H nh C opt whole (nh + 1) m 0 tab

theorem fit_at {H : Nat → ByteArray} {nh : Nat} {C : Nat → ByteArray} {opt : ByteArray → Bool} {whole : Bool} {W m i j R2 : Nat} {tab : Nat → Bool} {o tb : Bool} (him : i < m) (hW : W = nh + 1) (hR2 : R2 = (i + 1) * W) (hj : j < W)
    (ht : TabIs H nh C opt whole W m (i + 1) tab) (ho : opt (C i) = o) (htb : tb = (decide (j < nh) && decide (H j = C i) && tab (R2 + (j + 1)))) :
    fit H nh C opt whole m (m - i) j = ((o && tab (R2 + j)) || tb) := by
  have e : m - i = (m - (i + 1)) + 1 := by omega
  have e2 : m - ((m - (i + 1)) + 1) = i := by omega
  rw [e, fit_succ, e2, ho, htb, hR2, ht (i + 1) j (Nat.le_refl _) (by omega) hj]
  by_cases hjn : j < nh
  · rw [ht (i + 1) (j + 1) (Nat.le_refl _) (by omega) (by omega)]
  · simp [hjn]

theorem tab_step {H : Nat → ByteArray} {nh : Nat} {C : Nat → ByteArray} {opt : ByteArray → Bool} {whole : Bool} {W m i j R : Nat} {tab : Nat → Bool} {v : Bool} (hR : R = i * W) (hj : j < W)
    (ht : TabIs H nh C opt whole W m (i + 1) tab) (hd : ∀ j', j' < j → tab (R + j') = fit H nh C opt whole m (m - i) j') (hv : fit H nh C opt whole m (m - i) j = v) :
    TabIs H nh C opt whole W m (i + 1) (fun q => if q = R + j then v else tab q) ∧ ∀ j', j' < j + 1 → (fun q => if q = R + j then v else tab q) (R + j') = fit H nh C opt whole m (m - i) j' := by
  constructor
  · intro i' j' h1 h2 h3
    show (if i' * W + j' = R + j then v else tab (i' * W + j')) = _
    rw [if_neg (fun e => by have := (place_inj h3 hj (e.trans (by rw [hR]))).1; omega)]
    exact ht i' j' h1 h2 h3
  · intro j' hj'
    show (if R + j' = R + j then v else tab (R + j')) = _
    by_cases e : j' = j
    · subst e; rw [if_pos rfl]; exact hv.symm
    · rw [if_neg (by omega)]; exact hd j' (by omega)

theorem tab_row_done {H : Nat → ByteArray} {nh : Nat} {C : Nat → ByteArray} {opt : ByteArray → Bool} {whole : Bool} {W m i R : Nat} {tab : Nat → Bool} (hR : R = i * W)
    (ht : TabIs H nh C opt whole W m (i + 1) tab) (hd : ∀ j', j' < W → tab (R + j') = fit H nh C opt whole m (m - i) j') : TabIs H nh C opt whole W m i tab := by
  intro i' j' h1 h2 h3
  by_cases e : i' = i
  · subst e; rw [← hR]; exact hd j' h3
  · exact ht i' j' (by omega) h2 h3

set_option maxRecDepth 100000 in
set_option maxHeartbeats 2000000 in
theorem fitTable_any (a0 : Option Addr) (nh c0 : Nat) (H : Nat → ByteArray) (a1 : Option Addr) (m c1 : Nat) (C : Nat → ByteArray) (a2 : Option Addr) (n2 c2 : Nat) (O : Nat → ByteArray) (whole : Bool) (w : World)
    (hb0 : nh ≤ 4096) (hb1 : m ≤ 4096)
    (hs0 : Sl w a0 nh c0 (fun i => .string (H i))) (hs1 : Sl w a1 m c1 (fun i => .string (C i))) (hs2 : Sl w a2 n2 c2 (fun i => .string (O i))) :
    Calls Try.prog 12 #[.slice a0 nh c0, .slice a1 m c1, .slice a2 n2 c2, .bool whole] w fun e w' => RetTab w w' H nh C (optB O n2) whole m e ∧ Below w.heap.size w w' := by
  have H2 : Hid (Sl w a2 n2 c2 (fun i => .string (O i))) := hs2
  have HC0 : Hid (0 < nh → ∃ b off, a0 = some ⟨b, off, none⟩ ∧ b < w.heap.size ∧ ∀ i, i < nh → w.cell? ⟨b, off + i, none⟩ = some (.string (H i))) := hs0.2.2
  have HC1 : Hid (0 < m → ∃ b off, a1 = some ⟨b, off, none⟩ ∧ b < w.heap.size ∧ ∀ i, i < m → w.cell? ⟨b, off + i, none⟩ = some (.string (C i))) := hs1.2.2
  clear hs0 hs1 hs2
  obtain ⟨W, hW⟩ : ∃ W, W = nh + 1 := ⟨_, rfl⟩
  obtain ⟨T, hT⟩ : ∃ T, T = (m + 1) * W := ⟨_, rfl⟩
  have hTb : T ≤ 16785409 := by
    rw [hT]
    exact Nat.mul_le_mul (show m + 1 ≤ 4097 by omega) (show W ≤ 4097 by omega)
  obtain ⟨M, hM⟩ : ∃ M, M = m * W := ⟨_, rfl⟩
  have hTM : T = M + W := by rw [hT, hM, Nat.succ_mul]
  have rW : (nh : Int) + 1 = (W : Int) := by omega
  have rT : ((m : Int) + 1) * (W : Int) = (T : Int) := by rw [hT]; simp
  have rM : (m : Int) * (W : Int) = (M : Int) := by rw [hM]; simp
  have hmk := run_make_row' (P := Try.prog) 29 4 (.bool false) 1 Try.underlying29 Try.info4 rfl .i64 .i64 T (by omega) (by omega)
  have HW : Hid (W = nh + 1) := hW
  have HT : Hid (T = (m + 1) * W) := hT
  have HM : Hid (M = m * W) := hM
  have hW1 : nh < W := by omega
  have hW2 : W ≤ nh + 1 := by omega
  have hTM1 : M + W ≤ T := by omega
  clear hW hT hM hTM
  go_enter Try.func12, Try.ntmps12
  go_wp2
  clear rW rT
  go_loopw [12] (fun x wr => ∃ (j : Nat) (tab : Nat → Bool), j ≤ W ∧ x = .int .i64 j ∧ Below w.heap.size w wr ∧ Hid (wr.rowIs w.heap.size 4 T (fun q => .bool (tab q))) ∧ Hid (∀ j', j' < j → tab (M + j') = fit H nh C (optB O n2) whole m 0 j')) (fun x _ => W - (intOf x).toNat)
  case atStart => exact ⟨0, fun _ => false, Nat.zero_le _, rfl, (Below.refl _ _).alloc (Nat.le_refl _) _, World.rowIs_made _ _ _ _, fun j hj => absurd hj (by omega)⟩
  case round =>
    obtain ⟨j, tab, hj, rfl, hbw, hrow, htab⟩ := hrel
    have HB : Hid (Below w.heap.size w wr) := hbw
    clear hbw
    by_cases hlt : j < W
    · have hcq := hrow.out.cell (i := M + j) (by omega)
      have hfq := hrow.out.frozen (M + j)
      obtain ⟨v, hv⟩ : ∃ v, v = fit H nh C (optB O n2) whole m 0 j := ⟨_, rfl⟩
      have HV : Hid (v = fit H nh C (optB O n2) whole m 0 j) := hv
      have stepRel : ∀ wn : World, wn = wr.setCell ⟨w.heap.size, M + j, none⟩ (.bool v) → ∃ (j2 : Nat) (tab : Nat → Bool), j2 ≤ W ∧ Value.int .i64 ((j : Int) + 1) = .int .i64 j2 ∧ Below w.heap.size w wn ∧ Hid (wn.rowIs w.heap.size 4 T (fun q => .bool (tab q))) ∧ Hid (∀ j', j' < j2 → tab (M + j') = fit H nh C (optB O n2) whole m 0 j') := by
        rintro wn rfl
        refine ⟨j + 1, fun q => if q = M + j then v else tab q, by omega, by go_num, HB.out.setCell (Nat.le_refl _) _, (hrow.out.set (M + j) (.bool v)).congr fun q _ => ?_, fun j' hj' => ?_⟩
        · show (if q = M + j then _ else _) = Value.bool (if q = M + j then _ else _)
          split <;> rfl
        · show (if M + j' = M + j then v else tab (M + j')) = _
          by_cases e : j' = j
          · subst e; rw [if_pos rfl]; exact HV.out
          · rw [if_neg (by omega)]; exact htab.out j' (by omega)
      have SR := hide stepRel
      clear stepRel
      cases whole with
      | false =>
        obtain rfl : v = true := by rw [hv]; simp [fit]
        clear hv
        go_wp2
        go_roundw
        case rel => exact SR.out _ rfl
        case measure => simp [intOf]; omega
      | true =>
        by_cases hjn : j = nh
        · obtain rfl : v = true := by rw [hv]; simp [fit, hjn]
          have hq : ((j : Int) == (nh : Int)) = true := by rw [beq_iff_eq]; omega
          clear hv hjn
          go_wp2
          go_roundw
          case rel => exact SR.out _ rfl
          case measure => simp [intOf]; omega
        · obtain rfl : v = false := by rw [hv]; simp [fit, hjn]
          have hq : ((j : Int) == (nh : Int)) = false := by rw [beq_eq_false_iff_ne]; omega
          clear hv hjn
          go_wp2
          go_roundw
          case rel => exact SR.out _ rfl
          case measure => simp [intOf]; omega
    · obtain rfl : W = j := by omega
      have HTab : Hid (TabIs H nh C (optB O n2) whole W m m tab) := by
        intro i q h1 h2 h3
        obtain rfl : i = m := by omega
        rw [Nat.sub_self, ← HM.out]
        exact htab.out q h3
      obtain ⟨wo, rfl⟩ : ∃ wo : World, wo = wr := ⟨_, rfl⟩
      clear htab rM hlt hj
      go_wp2
      go_loopw [13] (fun x wr => ∃ (d : Nat) (i : Int) (tab : Nat → Bool), d ≤ m ∧ x = .int .i64 i ∧ Hid (i = (d : Int) - 1) ∧ -1 ≤ i ∧ i ≤ 4096 ∧ Below w.heap.size w wr ∧ Hid (wr.rowIs w.heap.size 4 T (fun q => .bool (tab q))) ∧ Hid (TabIs H nh C (optB O n2) whole W m d tab)) (fun x _ => (intOf x + 1).toNat)
      case atStart => exact ⟨m, _, tab, Nat.le_refl _, rfl, rfl, by omega, by omega, HB.out, hrow, HTab⟩
      case round =>
        clear HTab hrow HB tab
        obtain ⟨d, x, tab, hd, rfl, hx, hx1, hx2, hbw, hrow, HTab⟩ := hrel
        have HB : Hid (Below w.heap.size w wr) := hbw
        clear hbw
        by_cases hd0 : d = 0
        · obtain rfl : x = -1 := by have := hx.out; omega
          go_wp2
          go_ret
          refine ⟨⟨w.heap.size, tab, ?_, Nat.le_refl _, ?_, ?_⟩, HB.out⟩
          · rw [← HW.out, ← HT.out]; rfl
          · rw [← HW.out, ← HT.out]; exact hrow.out
          · rw [← HW.out]; subst hd0; exact HTab.out
        · obtain ⟨i, rfl⟩ : ∃ i, d = i + 1 := ⟨d - 1, by omega⟩
          obtain rfl : x = (i : Int) := by have := hx.out; omega
          clear hx hd0
          have him : i < m := by omega
          obtain ⟨b, off, rfl, hbl, hcell⟩ := HC1.out (by omega)
          have hck : wr.cell? ⟨b, off + i, none⟩ = some (.string (C i)) := (HB.out.cell (p := ⟨b, off + i, none⟩) hbl).trans (hcell i him)
          clear hcell
          go_wp2_with fail
          refine (in_any a2 n2 c2 O (C i) _ (H2.out.below HB.out)).mono ?_
          rintro e w2 ⟨rfl, hr⟩
          obtain ⟨o, hoe, rfl⟩ : ∃ o : Bool, optB O n2 (C i) = o ∧ e = .returned (.bool o) := by
            rcases hr.cases with ⟨h, rfl⟩ | ⟨h, rfl⟩
            · exact ⟨true, optB_iff.2 h, rfl⟩
            · refine ⟨false, ?_, rfl⟩
              cases h' : optB O n2 (C i)
              · rfl
              · exact absurd (optB_iff.1 h') h
          have HOE : Hid (optB O n2 (C i) = o) := hoe
          clear hr hoe
          obtain ⟨wo2, rfl⟩ : ∃ wo2 : World, wo2 = w2 := ⟨_, rfl⟩
          obtain ⟨R, hR⟩ : ∃ R, R = i * W := ⟨_, rfl⟩
          obtain ⟨R2, hR2⟩ : ∃ R2, R2 = (i + 1) * W := ⟨_, rfl⟩
          have rR : (i : Int) * (W : Int) = (R : Int) := by rw [hR]; simp
          have rR2 : ((i : Int) + 1) * (W : Int) = (R2 : Int) := by rw [hR2]; simp
          have hb2 : R + W ≤ R2 := by rw [hR, hR2, Nat.succ_mul]; omega
          have hb3 : R2 + W ≤ T := by
            rw [hR2, HT.out]
            have := Nat.mul_le_mul_right W (show i + 1 + 1 ≤ m + 1 by omega)
            rw [Nat.succ_mul] at this
            exact this
          have HR : Hid (R = i * W) := hR
          have HR2 : Hid (R2 = (i + 1) * W) := hR2
          clear hR hR2
          go_wp2
          go_loopw [15] (fun x wr => ∃ (j : Nat) (tab : Nat → Bool), j ≤ W ∧ x = .int .i64 j ∧ Below w.heap.size w wr ∧ Hid (wr.rowIs w.heap.size 4 T (fun q => .bool (tab q))) ∧ Hid (TabIs H nh C (optB O n2) whole W m (i + 1) tab) ∧ Hid (∀ j', j' < j → tab (R + j') = fit H nh C (optB O n2) whole m (m - i) j')) (fun x _ => W - (intOf x).toNat)
          case atStart => exact ⟨0, tab, Nat.zero_le _, rfl, HB.out, hrow, HTab, fun j hj => absurd hj (by omega)⟩
          case round =>
            clear HTab hrow HB tab hck
            obtain ⟨j, tab, hj, rfl, hbw, hrow, HTab, hdone⟩ := hrel
            have HB : Hid (Below w.heap.size w wr) := hbw
            clear hbw
            by_cases hlt : j < W
            · have hcc : wr.cell? ⟨w.heap.size, R2 + j, none⟩ = some (.bool (tab (R2 + j))) := hrow.out.cell (i := R2 + j) (by omega)
              have hcs := hrow.out.cell (i := R + j) (by omega)
              have hfs := hrow.out.frozen (R + j)
              obtain ⟨b', off', hx, hbl', hcell⟩ := HC1.out (by omega)
              obtain ⟨rfl, rfl⟩ : b = b' ∧ off = off' := by simpa using hx
              have hck : wr.cell? ⟨b, off + i, none⟩ = some (.string (C i)) := (HB.out.cell (p := ⟨b, off + i, none⟩) hbl).trans (hcell i him)
              clear hcell hx hbl'
              obtain ⟨tb, htb⟩ : ∃ tb, tb = (decide (j < nh) && decide (H j = C i) && tab (R2 + (j + 1))) := ⟨_, rfl⟩
              have HTB : Hid (tb = (decide (j < nh) && decide (H j = C i) && tab (R2 + (j + 1)))) := htb
              clear htb
              cases o with
              | false =>
                go_upto_region 16 with fail
                go_cut [102] (fun b wx => b = .bool tb ∧ ∃ n, wx = wr.drewN n)
                case first =>
                  by_cases hjn : j < nh
                  · have hjn' : (j : Int) < (nh : Int) := by omega
                    obtain ⟨b0, off0, rfl, hbl0, hcell0⟩ := HC0.out (by omega)
                    have hch : wr.cell? ⟨b0, off0 + j, none⟩ = some (.string (H j)) := (HB.out.cell (p := ⟨b0, off0 + j, none⟩) hbl0).trans (hcell0 j hjn)
                    clear hcell0
                    have hcn : wr.cell? ⟨w.heap.size, R2 + j + 1, none⟩ = some (.bool (tab (R2 + (j + 1)))) := hrow.out.cell (i := R2 + (j + 1)) (by omega)
                    have him' : (i : Int) < (m : Int) := by omega
                    have hix : (R2 : Int) + (j : Int) + 1 < (T : Int) := by omega
                    by_cases he : H j = C i
                    · have hq := beqS_true he
                      have HX : Hid (tb = tab (R2 + (j + 1))) := by unfold Hid; rw [HTB.out]; simp [hjn, he]
                      clear he
                      go_quiet (fail)
                      go_wp2
                      go_meet
                      case rel => exact ⟨by rw [HX.out], _, rfl⟩
                    · have hq := beqS_false he
                      have HX : Hid (tb = false) := by unfold Hid; rw [HTB.out]; simp [he]
                      clear he
                      go_quiet (fail)
                      go_wp2
                      go_meet
                      case rel => exact ⟨by rw [HX.out], _, rfl⟩
                  · have hq : decide ((j : Int) < (nh : Int)) = false := decide_eq_false (by omega)
                    have hq2 : decide (j < nh) = false := decide_eq_false hjn
                    have HX : Hid (tb = false) := by unfold Hid; rw [HTB.out]; simp [hjn]
                    go_quiet (fail)
                    go_wp2
                    go_meet
                    case rel => exact ⟨by rw [HX.out], _, rfl⟩
                case rest =>
                  obtain ⟨rfl, nd, rfl⟩ := hcut
                  have HV := fit_at him HW.out HR2.out hlt HTab.out HOE.out HTB.out
                  cases tb with
                  | true =>
                    have HV1 : Hid (fit H nh C (optB O n2) whole m (m - i) j = true) := by unfold Hid; rw [HV]; simp
                    clear HV HTB
                    go_wp2
                    go_roundw
                    case rel =>
                      have TS := tab_step HR.out hlt HTab.out hdone.out HV1.out
                      exact ⟨j + 1, fun q => if q = R + j then true else tab q, by omega, by go_num, (below_drewN HB.out nd).setCell (Nat.le_refl _) _, ((rowIs_drewN hrow.out nd).set (R + j) (.bool true)).congr fun q _ => (by show (if q = R + j then _ else _) = Value.bool (if q = R + j then _ else _); split <;> rfl), TS.1, TS.2⟩
                    case measure => simp [intOf]; omega
                  | false =>
                    have HV1 : Hid (fit H nh C (optB O n2) whole m (m - i) j = false) := by unfold Hid; rw [HV]; simp
                    clear HV HTB
                    go_wp2
                    go_roundw
                    case rel =>
                      have TS := tab_step HR.out hlt HTab.out hdone.out HV1.out
                      exact ⟨j + 1, fun q => if q = R + j then false else tab q, by omega, by go_num, (below_drewN HB.out nd).setCell (Nat.le_refl _) _, ((rowIs_drewN hrow.out nd).set (R + j) (.bool false)).congr fun q _ => (by show (if q = R + j then _ else _) = Value.bool (if q = R + j then _ else _); split <;> rfl), TS.1, TS.2⟩
                    case measure => simp [intOf]; omega
              | true =>
                go_upto_region 16 with fail
                go_cut [102] (fun b wx => b = .bool tb ∧ ∃ n, wx = wr.drewN n)
                case first =>
                  by_cases hjn : j < nh
                  · have hjn' : (j : Int) < (nh : Int) := by omega
                    obtain ⟨b0, off0, rfl, hbl0, hcell0⟩ := HC0.out (by omega)
                    have hch : wr.cell? ⟨b0, off0 + j, none⟩ = some (.string (H j)) := (HB.out.cell (p := ⟨b0, off0 + j, none⟩) hbl0).trans (hcell0 j hjn)
                    clear hcell0
                    have hcn : wr.cell? ⟨w.heap.size, R2 + j + 1, none⟩ = some (.bool (tab (R2 + (j + 1)))) := hrow.out.cell (i := R2 + (j + 1)) (by omega)
                    have him' : (i : Int) < (m : Int) := by omega
                    have hix : (R2 : Int) + (j : Int) + 1 < (T : Int) := by omega
                    by_cases he : H j = C i
                    · have hq := beqS_true he
                      have HX : Hid (tb = tab (R2 + (j + 1))) := by unfold Hid; rw [HTB.out]; simp [hjn, he]
                      clear he
                      go_quiet (fail)
                      go_wp2
                      go_meet
                      case rel => exact ⟨by rw [HX.out], _, rfl⟩
                    · have hq := beqS_false he
                      have HX : Hid (tb = false) := by unfold Hid; rw [HTB.out]; simp [he]
                      clear he
                      go_quiet (fail)
                      go_wp2
                      go_meet
                      case rel => exact ⟨by rw [HX.out], _, rfl⟩
                  · have hq : decide ((j : Int) < (nh : Int)) = false := decide_eq_false (by omega)
                    have hq2 : decide (j < nh) = false := decide_eq_false hjn
                    have HX : Hid (tb = false) := by unfold Hid; rw [HTB.out]; simp [hjn]
                    go_quiet (fail)
                    go_wp2
                    go_meet
                    case rel => exact ⟨by rw [HX.out], _, rfl⟩
                case rest =>
                  obtain ⟨rfl, nd, rfl⟩ := hcut
                  have HV := fit_at him HW.out HR2.out hlt HTab.out HOE.out HTB.out
                  cases tb with
                  | true =>
                    have HV1 : Hid (fit H nh C (optB O n2) whole m (m - i) j = true) := by unfold Hid; rw [HV]; simp
                    clear HV HTB
                    go_wp2
                    go_roundw
                    case rel =>
                      have TS := tab_step HR.out hlt HTab.out hdone.out HV1.out
                      exact ⟨j + 1, fun q => if q = R + j then true else tab q, by omega, by go_num, (below_drewN HB.out nd).setCell (Nat.le_refl _) _, ((rowIs_drewN hrow.out nd).set (R + j) (.bool true)).congr fun q _ => (by show (if q = R + j then _ else _) = Value.bool (if q = R + j then _ else _); split <;> rfl), TS.1, TS.2⟩
                    case measure => simp [intOf]; omega
                  | false =>
                    have HV1 : Hid (fit H nh C (optB O n2) whole m (m - i) j = tab (R2 + j)) := by unfold Hid; rw [HV]; simp
                    clear HV HTB
                    go_wp2
                    go_roundw
                    case rel =>
                      have TS := tab_step HR.out hlt HTab.out hdone.out HV1.out
                      exact ⟨j + 1, fun q => if q = R + j then (tab (R2 + j)) else tab q, by omega, by go_num, (below_drewN HB.out nd).setCell (Nat.le_refl _) _, ((rowIs_drewN hrow.out nd).set (R + j) (.bool (tab (R2 + j)))).congr fun q _ => (by show (if q = R + j then _ else _) = Value.bool (if q = R + j then _ else _); split <;> rfl), TS.1, TS.2⟩
                    case measure => simp [intOf]; omega
            · obtain rfl : W = j := by omega
              have HTab2 : Hid (TabIs H nh C (optB O n2) whole W m i tab) := tab_row_done HR.out HTab.out hdone.out
              clear hdone HTab
              go_wp2
              go_roundw
              case rel => exact ⟨i, (i : Int) - 1, tab, by omega, rfl, rfl, by omega, by omega, HB.out, hrow, HTab2⟩
              case measure => simp [intOf]
end Go.Proofs.Qxb6618131a
