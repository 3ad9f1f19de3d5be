import Derived.Test.Qxb6617896aMod3
namespace Go.Proofs.Qxb6617896a
open Go.ChangeShapes Go.WideShapes Go.ChangeAt Go.RowKit
attribute [local go_sem ↓] Go.wp_at_zero Go.wp_at_succ

theorem bytesE_app (l1 l2 : List Ent) : bytesE (l1 ++ l2) = bytesE l1 + bytesE l2 := by simp [bytesE]
theorem cnt_app (l1 l2 : List Ent) (c : ByteArray) : cnt (l1 ++ l2) c = cnt l1 c + cnt l2 c := by simp [cnt]

def bK (ms : List ME) (k : Nat) : Int := bytesE ((ms.take k).map ME.e)
theorem bK_zero (ms : List ME) : bK ms 0 = 0 := by simp [bK, bytesE]
theorem bK_all (ms : List ME) : bK ms ms.length = bytesE (ms.map ME.e) := by simp [bK]
theorem bK_succ {ms : List ME} {k : Nat} (hk : k < ms.length) : bK ms (k + 1) = bK ms k + ((mAt ms k).e.val.length : Int) := by
  unfold bK
  rw [List.take_add_one, mAt_some hk, Option.toList_some, List.map_append, bytesE_app]
  simp [bytesE]
theorem bK_bd (ms : List ME) (k : Nat) : 0 ≤ bK ms k ∧ bK ms k ≤ bytesE (ms.map ME.e) := by
  have h : bytesE (ms.map ME.e) = bK ms k + bytesE ((ms.drop k).map ME.e) := by
    unfold bK
    rw [← bytesE_app, ← List.map_append, List.take_append_drop]
  have h1 := bytesE_nonneg ((ms.drop k).map ME.e)
  have h2 := bytesE_nonneg ((ms.take k).map ME.e)
  refine ⟨h2, by omega⟩

def cK (ms : List ME) (c : ByteArray) (k : Nat) : Nat := cnt ((ms.take k).map ME.e) c
theorem cK_zero (ms : List ME) (c : ByteArray) : cK ms c 0 = 0 := by simp [cK, cnt]
theorem cK_all (ms : List ME) (c : ByteArray) : cK ms c ms.length = cnt (ms.map ME.e) c := by simp [cK]
theorem cK_succ {ms : List ME} {c : ByteArray} {k : Nat} (hk : k < ms.length) : cK ms c (k + 1) = cK ms c k + if (mAt ms k).e.c = c then 1 else 0 := by
  unfold cK
  rw [List.take_add_one, mAt_some hk, Option.toList_some, List.map_append, cnt_app]
  by_cases h : (mAt ms k).e.c = c <;> simp [cnt, h]
theorem cK_le (ms : List ME) (c : ByteArray) (k : Nat) : cK ms c k ≤ k := by
  unfold cK cnt
  exact Nat.le_trans (List.length_filter_le _ _) (by rw [List.length_map, List.length_take]; omega)

set_option maxRecDepth 100000 in
/-- zzModelBytes. -/
theorem zzModelBytes {mb base : Nat} {ms : List ME} {hs : List Hold} (w : World) (hl : ms.length ≤ 1048576) (hb : bytesE (ms.map ME.e) ≤ 1048576) (h : ModX w mb base ms hs) :
    Calls Try.prog 44 #[.pointer (some ⟨mb, 0, none⟩)] w fun e w' => e = .returned (.int .i64 (bytesE (ms.map ME.e))) ∧ w' = w := by
  obtain ⟨ea, ec, ha, hc, h⟩ := h
  have c0 := h.c0
  have hlt := h.lt
  have hcap := own_cap h.ent
  have H := hide h
  unfold maxLen at hcap
  clear h
  go_enter Try.func44, Try.ntmps44
  go_wp2
  go_loop [3, 4] (fun t i => ∃ (k : Nat) (x : Int), k ≤ ms.length ∧ i = .int .i64 k ∧ t = .int .i64 x ∧ Hid (x = bK ms k)) (fun _ i => ms.length - (intOf i).toNat)
  case atStart => exact ⟨0, 0, Nat.zero_le _, rfl, rfl, (bK_zero ms).symm⟩
  case round =>
    obtain ⟨k, x, hk, rfl, rfl, HX⟩ := hrel
    have hbd := bK_bd ms k
    rw [← HX.out] at hbd
    by_cases hlt2 : k < ms.length
    · obtain ⟨g, rfl, hgb, hgl, hne, hcell, _⟩ := H.out.eform (by omega)
      obtain ⟨d0, d1, d2, d3⟩ := hcell k hlt2
      have hs1 := bK_succ hlt2
      have hbd1 := bK_bd ms (k + 1)
      rw [hs1, ← HX.out] at hbd1
      have HS1 := hide hs1
      clear hcell hs1
      go_wp2
      go_round
      case rel => exact ⟨k + 1, _, by omega, by go_num, rfl, by show _ = bK ms (k + 1); rw [HS1.out, HX.out]⟩
      case measure => simp [intOf]; omega
    · obtain rfl : k = ms.length := by omega
      go_wp2
      go_ret
      exact ⟨by rw [HX.out, bK_all]; rfl, rfl⟩

set_option maxRecDepth 100000 in
/-- zzModelCount. -/
theorem zzModelCount {mb base : Nat} {ms : List ME} {hs : List Hold} (c : ByteArray) (w : World) (hl : ms.length ≤ 1048576) (h : ModX w mb base ms hs) :
    Calls Try.prog 46 #[.pointer (some ⟨mb, 0, none⟩), .string c] w fun e w' => e = .returned (.int .i64 (cnt (ms.map ME.e) c : Int)) ∧ w' = w := by
  obtain ⟨ea, ec, ha, hc, h⟩ := h
  have c0 := h.c0
  have hlt := h.lt
  have hcap := own_cap h.ent
  have H := hide h
  unfold maxLen at hcap
  clear h
  go_enter Try.func46, Try.ntmps46
  go_wp2
  go_loop [5, 6] (fun t i => ∃ (k x : Nat), k ≤ ms.length ∧ i = .int .i64 (k : Int) ∧ t = .int .i64 (x : Int) ∧ Hid (x = cK ms c k)) (fun _ i => ms.length - (intOf i).toNat)
  case atStart => exact ⟨0, 0, Nat.zero_le _, rfl, rfl, (cK_zero ms c).symm⟩
  case round =>
    obtain ⟨k, x, hk, rfl, rfl, HX⟩ := hrel
    have hbd := cK_le ms c k
    rw [← HX.out] at hbd
    by_cases hlt2 : k < ms.length
    · obtain ⟨g, rfl, hgb, hgl, hne, hcell, _⟩ := H.out.eform (by omega)
      obtain ⟨d0, d1, d2, d3⟩ := hcell k hlt2
      have HS1 := hide (cK_succ (c := c) hlt2)
      clear hcell
      by_cases e1 : (mAt ms k).e.c = c
      · have e1' := beqS_true e1
        have E1 := hide e1
        clear e1
        go_wp2
        go_round
        case rel => exact ⟨k + 1, x + 1, by omega, by go_num, by go_num, by show _ = cK ms c (k + 1); rw [HS1.out, if_pos E1.out, HX.out]⟩
        case measure => simp [intOf]; omega
      · have e1' := beqS_false e1
        go_wp2
        go_round
        case rel => exact ⟨k + 1, x, by omega, by go_num, rfl, by show _ = cK ms c (k + 1); rw [HS1.out, if_neg e1, HX.out]; rfl⟩
        case measure => simp [intOf]; omega
    · obtain rfl : k = ms.length := by omega
      go_wp2
      go_ret
      exact ⟨by rw [HX.out, cK_all]; rfl, rfl⟩

def RetOldest (hs : List Hold) (e : Ending) : Prop := ∃ b : Nat, e = .returned (.int .i64 (b : Int)) ∧ b < hs.length ∧ ∀ j, j < hs.length → (hAt hs b).last ≤ (hAt hs j).last

set_option maxHeartbeats 4000000 in
set_option maxRecDepth 100000 in
/-- zzModelOldest. -/
theorem zzModelOldest {mb base : Nat} {ms : List ME} {hs : List Hold} (w : World) (hl : hs.length ≤ 1048576) (h0 : 0 < hs.length) (h : ModX w mb base ms hs) :
    Calls Try.prog 56 #[.pointer (some ⟨mb, 0, none⟩)] w fun e w' => RetOldest hs e ∧ ∃ m, w' = w.drewN m := by
  obtain ⟨ea, ec, ha, hc, h⟩ := h
  have c1 := h.c1
  have hlt := h.lt
  have hcap := own_cap h.hol
  obtain ⟨g, rfl, hgb, hgl, hne, hcell, _⟩ := h.hform h0
  have HC := hide hcell
  have HM := hide h
  unfold maxLen at hcap
  clear h hcell
  go_enter Try.func56, Try.ntmps56
  go_wp2
  go_loopw [3, 4] (fun t i wr => ∃ (k b m : Nat), 1 ≤ k ∧ k ≤ hs.length ∧ i = .int .i64 (k : Int) ∧ t = .int .i64 (b : Int) ∧ b < k ∧ Hid (∀ j, j < k → (hAt hs b).last ≤ (hAt hs j).last) ∧ Hid (wr = w.drewN m)) (fun _ i _ => hs.length - (intOf i).toNat)
  case atStart => exact ⟨1, 0, 0, by omega, by omega, rfl, rfl, by omega, by intro j hj; rw [show j = 0 by omega]; exact Int.le_refl _, rfl⟩
  case round =>
    obtain ⟨k, b, m, hk1, hk, rfl, rfl, hbk, HL, HW⟩ := hrel
    have hb0 : Below w.heap.size w wr := by rw [HW.out]; exact below_drewN (Below.refl _ _) m
    have hM := HM.out.below hb0
    have x1 := hM.c1
    have hml := hM.lt
    have hgl2 : g < wr.heap.size := Nat.lt_of_lt_of_le hgl hb0.size
    clear hb0
    by_cases hlt2 : k < hs.length
    · obtain ⟨d0, d1, d2⟩ := hold_cells hM.hol k hlt2
      obtain ⟨e0, e1, e2⟩ := hold_cells hM.hol b (by omega)
      have hki : (0 : Int) ≤ (k : Int) := by omega
      have hbi : (0 : Int) ≤ (b : Int) := by omega
      have hkn : (k : Int) < (hs.length : Int) := by omega
      have hbn : (b : Int) < (hs.length : Int) := by omega
      clear hM
      by_cases t1 : (hAt hs k).last < (hAt hs b).last
      · go_wp2_with fail
        go_quiet (fail)
        go_wp2
        go_roundw
        case rel =>
          refine ⟨k + 1, k, m + nq, by omega, by omega, by go_num, rfl, by omega, fun j hj => ?_, by show _ = _; rw [HW.out]; rw [World.drewN_drewN]⟩
          by_cases e : j = k
          · subst e; exact Int.le_refl _
          · have := HL.out j (by omega); omega
        case measure => simp [intOf]; omega
      · go_wp2_with fail
        go_quiet (fail)
        go_wp2
        go_roundw
        case rel =>
          refine ⟨k + 1, b, m + nq, by omega, by omega, by go_num, rfl, by omega, fun j hj => ?_, by show _ = _; rw [HW.out]; rw [World.drewN_drewN]⟩
          by_cases e : j = k
          · subst e; omega
          · exact HL.out j (by omega)
        case measure => simp [intOf]; omega
    · obtain rfl : k = hs.length := by omega
      clear hM
      go_wp2
      go_ret
      exact ⟨⟨b, rfl, hbk, HL.out⟩, m, HW.out⟩
end Go.Proofs.Qxb6617896a
