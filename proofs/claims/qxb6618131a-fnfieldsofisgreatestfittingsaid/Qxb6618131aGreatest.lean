import Derived.Test.Qxb6618131aTable
namespace Go.Proofs.Qxb6618131a
open Go.ChangeShapes Go.WideShapes Go.ChangeAt Go.RowKit

theorem tab_zero {H : Nat → ByteArray} {nh : Nat} {C : Nat → ByteArray} {opt : ByteArray → Bool} {whole : Bool} {m : Nat} {tab : Nat → Bool} (h : TabIs H nh C opt whole (nh + 1) m 0 tab) : tab 0 = fit H nh C opt whole m m 0 := by
  have := h 0 0 (Nat.le_refl _) (Nat.zero_le _) (by omega)
  simpa using this

theorem fo_of_not_part {H : Nat → ByteArray} {nh : Nat} {C : Nat → ByteArray} {opt : ByteArray → Bool} {m : Nat} (h : fit H nh C opt false m m 0 = false) : fo H nh C m opt = ([], false) := by
  apply fo_none
  cases hg : greedy H nh C opt m with
  | none => rfl
  | some p =>
    have := fit_part_iff.2 ⟨p.1, p.2, hg⟩
    rw [h] at this
    cases this

theorem chooseB {H : Nat → ByteArray} {nh : Nat} {C : Nat → ByteArray} {opt : ByteArray → Bool} {m i nx : Nat} {l : List Int} {tab : Nat → Bool} (ht : TabIs H nh C opt false (nh + 1) m 0 tab) (hp : fit H nh C opt false m m 0 = true) (hi : i < m) (hg : greedy H nh C opt i = some (nx, l)) :
    (decide (nx < nh) && decide (H nx = C i) && tab ((i + 1) * (nh + 1) + (nx + 1))) = true ↔ (nx < nh ∧ H nx = C i) := by
  rw [choose_alike hp hi hg]
  constructor
  · intro h
    simp at h
    refine ⟨h.1.1, h.1.2, ?_⟩
    rw [← h.2]
    exact (ht (i + 1) (nx + 1) (Nat.zero_le _) (by omega) (by omega)).symm
  · rintro ⟨h1, h2, h3⟩
    rw [ht (i + 1) (nx + 1) (Nat.zero_le _) (by omega) (by omega)]
    simp [h1, h2, h3]

theorem step_part {H : Nat → ByteArray} {nh : Nat} {C : Nat → ByteArray} {opt : ByteArray → Bool} {m i nx : Nat} {l : List Int} (hp : fit H nh C opt false m m 0 = true) (hi : i < m) (hg : greedy H nh C opt i = some (nx, l)) :
    greedy H nh C opt (i + 1) = if nx < nh ∧ H nx = C i then some (nx + 1, l ++ [(nx : Int)]) else some (nx, l ++ [-1]) := by
  obtain ⟨nx', l', hg', _⟩ := greedy_of_fit hp (i := i + 1) (by omega)
  rw [greedy_succ hg] at hg' ⊢
  by_cases hc : nx < nh ∧ H nx = C i
  · rw [if_pos hc, if_pos hc]
  · rw [if_neg hc] at hg' ⊢
    rw [if_neg hc]
    by_cases ho : opt (C i) = true
    · rw [if_pos ho]
    · rw [if_neg ho] at hg'
      cases hg'

theorem ownsRow_drewN {w : World} {base e size n : Nat} {v : Value} {xs : List Value} (h : w.ownsRow base e size v n xs) (q : Nat) : (w.drewN q).ownsRow base e size v n xs := by
  obtain ⟨h1, h2⟩ := h
  refine ⟨h1, ?_⟩
  rcases h2 with h2 | ⟨g, cap, cur, hv, hg, hh, r⟩
  · exact Or.inl h2
  · exact Or.inr ⟨g, cap, cur, hv, hg, ((below_drewN (Below.refl (g + 1) w) q).block g (by omega)).trans hh, r⟩

theorem size_drewN (w : World) (q : Nat) : w.heap.size ≤ (w.drewN q).heap.size := (below_drewN (Below.refl 0 w) q).size

set_option maxRecDepth 100000 in
set_option maxHeartbeats 2000000 in
theorem greatest_any (a0 : Option Addr) (nh c0 : Nat) (H : Nat → ByteArray) (a1 : Option Addr) (m c1 : Nat) (C : Nat → ByteArray) (a2 : Option Addr) (n2 c2 : Nat) (O : Nat → ByteArray) (w : World)
    (hb0 : nh ≤ 4096) (hb1 : m ≤ 4096)
    (hs0 : Sl w a0 nh c0 (fun i => .string (H i))) (hs1 : Sl w a1 m c1 (fun i => .string (C i))) (hs2 : Sl w a2 n2 c2 (fun i => .string (O i))) :
    Calls Try.prog 7 #[.slice a0 nh c0, .slice a1 m c1, .slice a2 n2 c2] w fun e w' => RetF w' (fo H nh C m (optB O n2)).1 (fo H nh C m (optB O n2)).2 e ∧ Below w.heap.size w w' := by
  have H0 : Hid (Sl w a0 nh c0 (fun i => .string (H i))) := hs0
  have H1 : Hid (Sl w a1 m c1 (fun i => .string (C i))) := hs1
  have H2 : Hid (Sl w a2 n2 c2 (fun i => .string (O i))) := hs2
  clear hs0 hs1 hs2
  obtain ⟨i0, hi, hz0, hz1, hz2⟩ := info_parts Try.info3
  obtain ⟨W, hW⟩ : ∃ W, W = nh + 1 := ⟨_, rfl⟩
  obtain ⟨T, hT⟩ : ∃ T, T = (m + 1) * W := ⟨_, rfl⟩
  have hTb : T ≤ 16785409 := by
    rw [hT]
    exact Nat.mul_le_mul (show m + 1 ≤ 4097 by omega) (show W ≤ 4097 by omega)
  have hT1 : 0 < T := by
    rw [hT]
    exact Nat.mul_pos (by omega) (by omega)
  have rW : (nh : Int) + 1 = (W : Int) := by omega
  have HW : Hid (W = nh + 1) := hW
  have HT : Hid (T = (m + 1) * W) := hT
  have hW1 : nh < W := by omega
  have hW2 : W ≤ nh + 1 := by omega
  clear hW hT
  go_enter Try.func7, Try.ntmps7
  go_wp2_with fail
  refine (fitTable_any a0 nh c0 H a1 m c1 C a2 n2 c2 O false _ hb0 hb1 H0.out H1.out H2.out).mono ?_
  rintro e w2 ⟨⟨B1, tab1, rfl, hB1, hr1, ht1⟩, hb2⟩
  rw [← HW.out, ← HT.out] at hr1
  rw [← HW.out, ← HT.out]
  have HB2 : Hid (Below w.heap.size w w2) := hb2
  have HR1 : Hid (w2.rowIs B1 4 T (fun q => .bool (tab1 q))) := hr1
  have HT1 : Hid (TabIs H nh C (optB O n2) false (nh + 1) m 0 tab1) := ht1
  clear hb2 hr1 ht1 hB1
  go_wp2_with fail
  refine (fitTable_any a0 nh c0 H a1 m c1 C a2 n2 c2 O true _ hb0 hb1 (H0.out.below HB2.out) (H1.out.below HB2.out) (H2.out.below HB2.out)).mono ?_
  rintro e w3 ⟨⟨B2, tab2, rfl, hB2, hr2, ht2⟩, hb3⟩
  rw [← HW.out, ← HT.out] at hr2
  rw [← HW.out, ← HT.out]
  have HB3 : Hid (Below w.heap.size w w3) := HB2.out.trans (hb3.mono HB2.out.size)
  have HR2 : Hid (w3.rowIs B2 4 T (fun q => .bool (tab2 q))) := hr2
  have HT2 : Hid (TabIs H nh C (optB O n2) true (nh + 1) m 0 tab2) := ht2
  have HR1' : Hid (w3.rowIs B1 4 T (fun q => .bool (tab1 q))) := HR1.out.of_block (hb3.block B1 HR1.out.lt)
  clear HR1 hb3 hr2 ht2 hB2 HB2
  have hp0 : w3.cell? ⟨B1, 0, none⟩ = some (.bool (tab1 0)) := HR1'.out.cell (i := 0) hT1
  cases hpt : tab1 0 with
  | false =>
    rw [hpt] at hp0
    have HF : Hid (fo H nh C m (optB O n2) = ([], false)) := fo_of_not_part (by rw [← tab_zero HT1.out]; exact hpt)
    clear hpt
    go_wp2
    go_ret2
    exact ⟨by rw [HF.out]; exact RetF.nil _ _, HB3.out⟩
  | true =>
    rw [hpt] at hp0
    have HP : Hid (fit H nh C (optB O n2) false m m 0 = true) := by unfold Hid; rw [← tab_zero HT1.out]; exact hpt
    clear hpt
    have HC0 : Hid (0 < nh → ∃ b off, a0 = some ⟨b, off, none⟩ ∧ b < w3.heap.size ∧ ∀ i, i < nh → w3.cell? ⟨b, off + i, none⟩ = some (.string (H i))) := (H0.out.below HB3.out).2.2
    have HC1 : Hid (0 < m → ∃ b off, a1 = some ⟨b, off, none⟩ ∧ b < w3.heap.size ∧ ∀ i, i < m → w3.cell? ⟨b, off + i, none⟩ = some (.string (C i))) := (H1.out.below HB3.out).2.2
    go_wp2
    clear rW hp0
    go_loopw [11, 12, 13] (fun v nxt i wr => ∃ (k nx : Nat) (l : List Int), k ≤ m ∧ i = .int .i64 k ∧ nxt = .int .i64 nx ∧ nx ≤ k ∧ nx ≤ nh ∧ Hid (greedy H nh C (optB O n2) k = some (nx, l)) ∧ Hid (wr.ownsRow w3.heap.size 3 1 v k (l.map (Value.int .i64))) ∧ Hid (k = 0 ↔ v = .slice none 0 0) ∧ Below w3.heap.size w3 wr)
      (fun _ _ i _ => m - (intOf i).toNat)
    case atStart => exact ⟨0, 0, [], Nat.zero_le _, rfl, rfl, Nat.le_refl _, Nat.zero_le _, rfl, World.ownsRow_nil _ _ _ _, ⟨fun _ => rfl, fun _ => rfl⟩, Below.refl _ _⟩
    case round =>
      obtain ⟨k, nx, l, hk, rfl, rfl, hnk, hnn, hg, hown, hnil, hbw⟩ := hrel
      have HB : Hid (Below w3.heap.size w3 wr) := hbw
      have hsz : w3.heap.size ≤ wr.heap.size := hbw.size
      clear hbw
      by_cases hlt : k < m
      · obtain ⟨b, off, rfl, hbl, hcell⟩ := HC1.out (by omega)
        have hck : wr.cell? ⟨b, off + k, none⟩ = some (.string (C k)) := (HB.out.cell (p := ⟨b, off + k, none⟩) hbl).trans (hcell k hlt)
        clear hcell
        obtain ⟨R2, hR2⟩ : ∃ R2, R2 = (k + 1) * W := ⟨_, rfl⟩
        have rR2 : ((k : Int) + 1) * (W : Int) = (R2 : Int) := by rw [hR2]; simp
        have hb3 : R2 + W ≤ T := by
          rw [hR2, HT.out]
          have := Nat.mul_le_mul_right W (show k + 1 + 1 ≤ m + 1 by omega)
          rw [Nat.succ_mul] at this
          exact this
        have HR : Hid (R2 = (k + 1) * W) := hR2
        clear hR2
        obtain ⟨tb, htb⟩ : ∃ tb, tb = (decide (nx < nh) && decide (H nx = C k) && tab1 (R2 + (nx + 1))) := ⟨_, rfl⟩
        have HTB : Hid (tb = (decide (nx < nh) && decide (H nx = C k) && tab1 (R2 + (nx + 1)))) := htb
        clear htb
        have HRr : Hid (wr.rowIs B1 4 T (fun q => .bool (tab1 q))) := HR1'.out.of_block (HB.out.block B1 HR1'.out.lt)
        go_upto_region 11 with fail
        go_cut [61] (fun b wx => b = .bool tb ∧ ∃ n, wx = wr.drewN n)
        case first =>
          by_cases hjn : nx < nh
          · have hjn' : (nx : Int) < (nh : Int) := by omega
            obtain ⟨b0, off0, rfl, hbl0, hcell0⟩ := HC0.out (by omega)
            have hch : wr.cell? ⟨b0, off0 + nx, none⟩ = some (.string (H nx)) := (HB.out.cell (p := ⟨b0, off0 + nx, none⟩) hbl0).trans (hcell0 nx hjn)
            clear hcell0
            have hcn : wr.cell? ⟨B1, R2 + nx + 1, none⟩ = some (.bool (tab1 (R2 + (nx + 1)))) := HRr.out.cell (i := R2 + (nx + 1)) (by omega)
            have him' : (k : Int) < (m : Int) := by omega
            have hix : (R2 : Int) + (nx : Int) + 1 < (T : Int) := by omega
            by_cases he : H nx = C k
            · have hq := beqS_true he
              have HX : Hid (tb = tab1 (R2 + (nx + 1))) := by unfold Hid; rw [HTB.out]; simp [hjn, he]
              clear he
              go_quiet (fail)
              go_wp2
              go_meet
              case rel => exact ⟨by rw [HX.out], _, rfl⟩
            · have hq := beqS_false he
              have HX : Hid (tb = false) := by unfold Hid; rw [HTB.out]; simp [he]
              clear he
              go_quiet (fail)
              go_wp2
              go_meet
              case rel => exact ⟨by rw [HX.out], _, rfl⟩
          · have hq : decide ((nx : Int) < (nh : Int)) = false := decide_eq_false (by omega)
            have hq2 : decide (nx < nh) = false := decide_eq_false hjn
            have HX : Hid (tb = false) := by unfold Hid; rw [HTB.out]; simp [hjn]
            go_quiet (fail)
            go_wp2
            go_meet
            case rel => exact ⟨by rw [HX.out], _, rfl⟩
        case rest =>
          obtain ⟨rfl, nd, rfl⟩ := hcut
          have hownD : Hid ((wr.drewN nd).ownsRow w3.heap.size 3 1 u11 k (l.map (Value.int .i64))) := ownsRow_drewN hown.out nd
          have hszD : w3.heap.size ≤ (wr.drewN nd).heap.size := Nat.le_trans hsz (size_drewN wr nd)
          have HCB := chooseB HT1.out HP.out hlt hg.out
          rw [← HW.out, ← HR.out, ← HTB.out] at HCB
          have HST := step_part HP.out hlt hg.out
          cases tb with
          | true =>
            have hcc := HCB.1 rfl
            rw [if_pos hcc] at HST
            have hnlt := hcc.1
            have HG : Hid (greedy H nh C (optB O n2) (k + 1) = some (nx + 1, l ++ [(nx : Int)])) := HST
            clear HST HCB hcc HTB
            go_wp2_with (at_builtin; refine wpList_append_own _ rfl _ _ 25 rfl w3.heap.size 3 i0 (.int .i64 0) 1 8 Try.underlying25 hi hz0 hz1 hz2 rfl (by decide) _ _ _ rfl (hownD.out.alloc _) ⟨_, 0, none⟩ 1 1 [.int .i64 ((nx : Int))] rfl rfl (cell_one_new _ _ _) (ints_oneCell .i64 [((nx : Int))]) (by unfold maxLen; omega) (by omega) (by simp; omega) ?_; intro v' w1 hown' hgrow hn')
            have HO : Hid (w1.ownsRow w3.heap.size 3 1 v' (k + 1) (l.map (Value.int .i64) ++ [.int .i64 ((nx : Int))])) := hown'
            have HNI : Hid (v' = .slice none 0 0 ↔ u11 = .slice none 0 0 ∧ 1 = 0) := hn'
            have HB1 : Hid (Below w3.heap.size w3 w1) := ((below_drewN HB.out nd).alloc (Nat.le_trans hsz (size_drewN wr nd)) _).grown hgrow (by have := size_drewN wr nd; simp; omega) (own_ge hown.out)
            clear hown' hgrow hn'
            go_wp2
            go_roundw
            case rel => exact ⟨k + 1, nx + 1, l ++ [((nx : Int))], by omega, by go_num, by go_num, by omega, by omega, HG, (by rw [List.map_append]; exact HO.out), ⟨fun h => absurd h (by omega), fun h => absurd ((HNI.out.1 h).2) (by omega)⟩, HB1.out⟩
            case measure => simp [intOf]; omega
          | false =>
            rw [if_neg (fun h => by cases HCB.2 h)] at HST
            have HG : Hid (greedy H nh C (optB O n2) (k + 1) = some (nx, l ++ [-1])) := HST
            clear HST HCB HTB
            go_wp2_with (at_builtin; refine wpList_append_own _ rfl _ _ 25 rfl w3.heap.size 3 i0 (.int .i64 0) 1 8 Try.underlying25 hi hz0 hz1 hz2 rfl (by decide) _ _ _ rfl (hownD.out.alloc _) ⟨_, 0, none⟩ 1 1 [.int .i64 (-1)] rfl rfl (cell_one_new _ _ _) (ints_oneCell .i64 [(-1)]) (by unfold maxLen; omega) (by omega) (by simp; omega) ?_; intro v' w1 hown' hgrow hn')
            have HO : Hid (w1.ownsRow w3.heap.size 3 1 v' (k + 1) (l.map (Value.int .i64) ++ [.int .i64 (-1)])) := hown'
            have HNI : Hid (v' = .slice none 0 0 ↔ u11 = .slice none 0 0 ∧ 1 = 0) := hn'
            have HB1 : Hid (Below w3.heap.size w3 w1) := ((below_drewN HB.out nd).alloc (Nat.le_trans hsz (size_drewN wr nd)) _).grown hgrow (by have := size_drewN wr nd; simp; omega) (own_ge hown.out)
            clear hown' hgrow hn'
            go_wp2
            go_roundw
            case rel => exact ⟨k + 1, nx, l ++ [(-1)], by omega, by go_num, by go_num, by omega, by omega, HG, (by rw [List.map_append]; exact HO.out), ⟨fun h => absurd h (by omega), fun h => absurd ((HNI.out.1 h).2) (by omega)⟩, HB1.out⟩
            case measure => simp [intOf]; omega
      · obtain rfl : m = k := by omega
        have HF : Hid (fo H nh C m (optB O n2) = (l, decide (nx = nh))) := fo_some hg.out
        have hlen := (greedy_len hg.out).1
        obtain ⟨a, c, hv, hsl, hne⟩ := sl_of_own (d := (0 : Int)) hown.out hlen hnil.out
        have HS : Hid (Sl wr a l.length c (fun i => .int .i64 (l.getD i 0))) := hsl
        have HNE : Hid (a = none ↔ l = []) := hne
        have HV : Hid (u11 = .slice a l.length c) := hv
        have hc0 : wr.cell? ⟨B2, 0, none⟩ = some (.bool (tab2 0)) := (HR2.out.of_block (HB.out.block B2 HR2.out.lt)).cell (i := 0) hT1
        have hT1' : (0 : Int) < (T : Int) := by omega
        have HT0 : Hid (tab2 0 = decide (nx = nh)) := by
          unfold Hid
          rw [tab_zero HT2.out]
          have := fit_whole_iff hg.out
          by_cases e : nx = nh
          · rw [this.2 e]; simp [e]
          · simp [e]
            cases h : fit H nh C (optB O n2) true m m 0
            · rfl
            · exact absurd (this.1 h) e
        clear hsl hne hown hnil hlen hv
        rw [HV.out]
        go_wp2
        go_quiet (fail)
        go_wp2
        go_ret2
        refine ⟨?_, (HB3.out.trans ((below_drewN HB.out _).mono HB3.out.size))⟩
        rw [HF.out]
        exact ⟨a, c, by rw [← HT0.out]; rfl, HS.out.below (below_drewN (Below.refl _ _) _), HNE.out⟩
end Go.Proofs.Qxb6618131a
