import Derived.Test.Qxb6617896aMod4
namespace Go.Proofs.Qxb6617896a
open Go.ChangeShapes Go.WideShapes Go.ChangeAt Go.RowKit
attribute [local go_sem ↓] Go.wp_at_zero Go.wp_at_succ

def minusP (c : ByteArray) (m : ME) : Bool := !decide (m.e.c = c)
def minusM (ms : List ME) (c : ByteArray) : List ME := ms.filter (minusP c)
theorem minusM_map (ms : List ME) (c : ByteArray) : (minusM ms c).map ME.e = minusE (ms.map ME.e) c := by
  unfold minusM minusE
  rw [List.filter_map]
  rfl

def keepHK (hs : List Hold) (c : ByteArray) (k : Nat) : List Hold := (hs.take k).filter fun h => !decide (h.c = c)
theorem keepHK_zero (hs : List Hold) (c : ByteArray) : keepHK hs c 0 = [] := by simp [keepHK]
theorem keepHK_all (hs : List Hold) (c : ByteArray) : keepHK hs c hs.length = minusH hs c := by simp [keepHK, minusH]
theorem keepHK_succ {hs : List Hold} {c : ByteArray} {k : Nat} (hk : k < hs.length) : keepHK hs c (k + 1) = if (hAt hs k).c = c then keepHK hs c k else keepHK hs c k ++ [hAt hs k] := by
  unfold keepHK
  rw [List.take_add_one, hAt_some hk, Option.toList_some, List.filter_append]
  by_cases h : (hAt hs k).c = c <;> simp [h]
theorem keepHK_len (hs : List Hold) (c : ByteArray) (k : Nat) : (keepHK hs c k).length ≤ k := by
  unfold keepHK
  exact Nat.le_trans (List.length_filter_le _ _) (by rw [List.length_take]; omega)

/-- In the second loop. -/
def KeepHAt (w wr : World) (mb base : Nat) (ms : List ME) (hs : List Hold) (ea : Option Addr) (ec : Nat) (ha : Option Addr) (hc : Nat) (g cap : Nat) (ks : List Hold) : Prop :=
  ModAt wr mb base ms hs ea ec ha hc ∧ wr.ownsRow base 83 3 (.slice (some ⟨g, 0, none⟩) ks.length cap) ks.length (hC ks) ∧ Fr base w wr ∧ mb ≠ g ∧ (Value.slice ea ms.length ec).ownBlock ≠ some g ∧ (Value.slice ha hs.length hc).ownBlock ≠ some g

theorem KeepHAt.start {w w1 : World} {mb base : Nat} {ms : List ME} {hs : List Hold} {ea : Option Addr} {ec : Nat} {ha : Option Addr} {hc : Nat} (h : ModAt w1 mb base ms hs ea ec ha hc) (hb : Fr base w w1) {zc : Array Value} {cap : Nat} (hcap : cap ≤ 1048576) :
    KeepHAt w (w1.alloc (.cells (madeCells zc (cap * 3)) 83)) mb base ms hs ea ec ha hc w1.heap.size cap [] := by
  have hl := h.lt
  have hbs := h.bas
  refine ⟨h.below ((Below.refl _ _).alloc (Nat.le_refl _) _), ?_, hb.alloc (by omega) _, by omega, own_ne_new h.ent, own_ne_new h.hol⟩
  exact World.ownsRow_made w1 _ cap (by omega) (by unfold maxLen; omega) (by rw [size_madeCells])

theorem KeepHAt.add {w wr w2 : World} {mb base : Nat} {ms : List ME} {hs : List Hold} {ea : Option Addr} {ec : Nat} {ha : Option Addr} {hc : Nat} {g cap : Nat} {ks : List Hold} {y : Hold} {o : Obj} (h : KeepHAt w wr mb base ms hs ea ec ha hc g cap ks)
    (hown : w2.ownsRow base 83 3 (.slice (some ⟨g, 0, none⟩) (ks.length + 1) cap) (ks.length + 1) (hC (ks ++ [y]))) (hg : (wr.alloc o).grownBy w2 (some g)) : KeepHAt w w2 mb base ms hs ea ec ha hc g cap (ks ++ [y]) := by
  obtain ⟨h1, h2, h3, h4, h5, h6⟩ := h
  have hg' := (wr.grownBy_alloc o (some g)).trans hg
  have hle : (ks ++ [y]).length = ks.length + 1 := by simp
  have hl := h1.lt
  have hbs := h1.bas
  refine ⟨h1.gK hg' h4 h5 h6, by rw [hle]; exact hown, h3.grown hg' (by omega) (fun k hk => ?_) (fun k hk => ?_), h4, h5, h6⟩
  · cases hk
    exact (own_block h2).1
  · exact own_T83 h2 k hk

set_option maxHeartbeats 4000000 in
set_option maxRecDepth 100000 in
/-- zzModelEvict. -/
theorem zzModelEvict {mb base : Nat} {ms : List ME} {hs : List Hold} (i : Nat) (w : World) (hi : i < hs.length) (hl : hs.length ≤ 1000000) (hml : ms.length ≤ 1000000) (hn : NodH hs) (h : ModX w mb base ms hs) :
    Calls Try.prog 55 #[.pointer (some ⟨mb, 0, none⟩), .int .i64 (i : Int)] w fun e w' => RetMod w w' mb base (minusM ms (hAt hs i).c) (minusH hs (hAt hs i).c) e := by
  obtain ⟨ea, ec, ha, hc, h⟩ := h
  obtain ⟨zc, hzc, hmk0⟩ := make87
  have hmk := hmk0 ms.length (by omega)
  obtain ⟨zd, hzd, hmk1⟩ := make83
  have hmk2 := hmk1 hs.length (by omega)
  clear hmk0 hzc hmk1 hzd
  have HN := hide hn
  have HI : Hid (i < hs.length) := hi
  obtain ⟨c, HC⟩ : ∃ c, Hid ((hAt hs i).c = c) := ⟨_, rfl⟩
  obtain ⟨g0, rfl, hgb, hgl, hgm, hcell, _⟩ := h.hform (by omega)
  obtain ⟨d0, d1, d2⟩ := hcell i hi
  rw [HC.out] at d0 ⊢
  have c0 := h.c0
  have c1 := h.c1
  have hmlt := h.lt
  have hcap := own_cap h.ent
  have hcaph := own_cap h.hol
  unfold maxLen at hcap hcaph
  have HM := hide h
  clear h hcell hn
  go_enter Try.func55, Try.ntmps55
  go_wp2_with fail
  go_loopw [5, 6] (fun v i wr => ∃ (k : Nat) (ks : List ME), k ≤ ms.length ∧ i = .int .i64 (k : Int) ∧ v = .slice (some ⟨w.heap.size, 0, none⟩) ks.length ms.length ∧ Hid (ks = keepK ms (minusP c) k) ∧ Hid (KeepAt w wr mb base ms hs ea ec (some ⟨g0, 0, none⟩) hc w.heap.size ms.length ks)) (fun _ i _ => ms.length - (intOf i).toNat)
  case atStart => exact ⟨0, [], Nat.zero_le _, rfl, rfl, (keepK_zero _ _).symm, KeepAt.start HM.out (Fr.refl _ _) (by omega)⟩
  case round =>
    clear c0 c1 d0 d1 d2
    obtain ⟨k, ks, hk, rfl, rfl, HKS, HK⟩ := hrel
    have c0 := HK.out.1.c0
    have hwl := HK.out.1.lt
    by_cases hlt : k < ms.length
    · obtain ⟨ge, rfl, hgb', hgl', hgm', hcell, _⟩ := HK.out.1.eform (by omega)
      obtain ⟨d0, d1, d2, d3⟩ := hcell k hlt
      have hkl : ks.length ≤ k := by rw [HKS.out]; exact keepK_len _ _ _
      clear hcell
      have HSU := hide (keepK_succ (p := minusP c) hlt)
      obtain ⟨y, HY⟩ : ∃ y, Hid (mAt ms k = y) := ⟨_, rfl⟩
      rw [HY.out] at d0 d1 d2 d3 HSU
      by_cases e1 : y.e.c = c
      · have e1' := beqS_true e1
        have E1 := hide e1
        clear e1
        go_wp2
        go_roundw
        case rel => exact ⟨k + 1, ks, by omega, by go_num, rfl, by show ks = _; rw [HSU.out, if_neg (by simp [minusP, E1.out])]; exact HKS.out, HK⟩
        case measure => simp [intOf]; omega
      · have e1' := beqS_false e1
        go_wp2_with (at_builtin; refine fit87 (w := wr.alloc _) y rfl _ _ rfl rfl (HK.out.2.1.alloc _) wr.heap.size rfl (heap_alloc_new wr _) (by omega) ?_)
        intro w3 hown3 hg3
        have HK3 := hide (HK.out.add hown3 hg3)
        have hle : (ks ++ [y]).length = ks.length + 1 := by simp
        clear hown3 hg3
        go_wp2
        go_roundw
        case rel => exact ⟨k + 1, ks ++ [y], by omega, by go_num, by rw [hle], by show ks ++ [y] = _; rw [HSU.out, if_pos (by simp [minusP, e1]), HKS.out], HK3⟩
        case measure => simp [intOf]; omega
    · obtain rfl : k = ms.length := by omega
      obtain ⟨wp, rfl⟩ : ∃ wp : World, wp = wr := ⟨_, rfl⟩
      have hfz := HK.out.1.fz 0
      have c1 := HK.out.1.c1
      have hks : Hid (ks = minusM ms c) := by show ks = _; rw [HKS.out, keepK_all]; rfl
      have hM4 := ModAt.storeE HK.out.1.str HK.out.1.hol HK.out.2.1 HK.out.1.bas
      have HM4 := hide hM4
      have HB4 := hide (HK.out.2.2.1.setCell (p := ⟨mb, 0, none⟩) HK.out.1.bas (.slice (some ⟨w.heap.size, 0, none⟩) ks.length ms.length) (T57 HK.out.1.str))
      clear hM4
      have hz4 : (wp.setCell ⟨mb, 0, none⟩ (.slice (some ⟨w.heap.size, 0, none⟩) ks.length ms.length)).heap.size = wp.heap.size := by simp [World.setCell]
      have hK5 := KeepHAt.start (zc := zd) (cap := hs.length) HM4.out HB4.out (by omega)
      rw [hz4] at hK5
      have HK5 := hide hK5
      clear hK5 hz4
      go_wp2_with fail
      go_loopw [7, 8] (fun v i wr => ∃ (k : Nat) (js : List Hold), k ≤ hs.length ∧ i = .int .i64 (k : Int) ∧ v = .slice (some ⟨wp.heap.size, 0, none⟩) js.length hs.length ∧ Hid (js = keepHK hs c k) ∧ Hid (KeepHAt w wr mb base ks hs (some ⟨w.heap.size, 0, none⟩) ms.length (some ⟨g0, 0, none⟩) hc wp.heap.size hs.length js)) (fun _ i _ => hs.length - (intOf i).toNat)
      case atStart => exact ⟨0, [], Nat.zero_le _, rfl, rfl, (keepHK_zero _ _).symm, HK5⟩
      case round =>
        clear c0 c1 hfz
        obtain ⟨k, js, hk, rfl, rfl, HJS, HJ⟩ := hrel
        have c1 := HJ.out.1.c1
        have hwl2 := HJ.out.1.lt
        by_cases hlt : k < hs.length
        · obtain ⟨d0, d1, d2⟩ := hold_cells HJ.out.1.hol k hlt
          have hgl3 : g0 < wr.heap.size := cell_lt d0
          have hkl : js.length ≤ k := by rw [HJS.out]; exact keepHK_len _ _ _
          have HSU := hide (keepHK_succ (c := c) hlt)
          have hiff : (hAt hs k).c = c ↔ k = i := by
            constructor
            · intro e
              by_cases h' : k = i
              · exact h'
              · exact absurd (e.trans HC.out.symm) (nodH_ne HN.out hlt HI.out h')
            · rintro rfl
              exact HC.out
          obtain ⟨y, HY⟩ : ∃ y, Hid (hAt hs k = y) := ⟨_, rfl⟩
          rw [HY.out] at d0 d1 d2 HSU hiff
          have HIFF := hide hiff
          clear hiff
          by_cases e1 : (k : Int) = (i : Int)
          · have hyc : Hid (y.c = c) := HIFF.out.2 (by omega)
            go_wp2
            go_roundw
            case rel => exact ⟨k + 1, js, by omega, by go_num, rfl, by show js = _; rw [HSU.out, if_pos hyc.out]; exact HJS.out, HJ⟩
            case measure => simp [intOf]; omega
          · have hyc : Hid (¬ y.c = c) := fun h => e1 (by have := HIFF.out.1 h; omega)
            go_wp2_with (at_builtin; refine fit83 (w := wr.alloc _) y rfl _ _ rfl rfl (HJ.out.2.1.alloc _) wr.heap.size rfl (heap_alloc_new wr _) (by omega) ?_)
            intro w3 hown3 hg3
            have HJ3 := hide (HJ.out.add hown3 hg3)
            have hle : (js ++ [y]).length = js.length + 1 := by simp
            clear hown3 hg3
            go_wp2
            go_roundw
            case rel => exact ⟨k + 1, js ++ [y], by omega, by go_num, by rw [hle], by show js ++ [y] = _; rw [HSU.out, if_neg hyc.out, HJS.out], HJ3⟩
            case measure => simp [intOf]; omega
        · obtain rfl : k = hs.length := by omega
          have hfz := HJ.out.1.fz 1
          have hjs : js = minusH hs c := by rw [HJS.out, keepHK_all]
          have HE2 := hide hjs
          clear hjs
          go_wp2
          go_end0
          refine ⟨rfl, ?_, HJ.out.2.2.1.setCell HJ.out.1.bas _ (T57 HJ.out.1.str)⟩
          rw [← hks.out, ← HE2.out]
          exact ⟨_, _, _, _, ModAt.storeH HJ.out.1.str HJ.out.1.ent HJ.out.2.1 HJ.out.1.bas⟩
end Go.Proofs.Qxb6617896a
