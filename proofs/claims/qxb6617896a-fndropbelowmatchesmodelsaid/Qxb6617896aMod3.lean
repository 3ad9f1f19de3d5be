import Derived.Test.Qxb6617896aMod2
namespace Go.Proofs.Qxb6617896a
open Go.ChangeShapes Go.WideShapes Go.ChangeAt Go.RowKit
attribute [local go_sem ↓] Go.wp_at_zero Go.wp_at_succ

theorem nodH_ne {hs : List Hold} (hn : NodH hs) {i j : Nat} (hi : i < hs.length) (hj : j < hs.length) (hne : i ≠ j) : (hAt hs i).c ≠ (hAt hs j).c := by
  have hp := List.pairwise_iff_getElem.1 hn
  have ei : hAt hs i = hs[i] := by unfold hAt; simp [hi]
  have ej : hAt hs j = hs[j] := by unfold hAt; simp [hj]
  rw [ei, ej]
  rcases Nat.lt_or_gt_of_ne hne with h | h
  · exact hp i j hi hj h
  · exact fun e => hp j i hj hi h e.symm

theorem map_at {hs : List Hold} {c : ByteArray} {i : Nat} (hn : NodH hs) (hi : i < hs.length) (hc : (hAt hs i).c = c) (f : Hold → Hold) (hf : ∀ h : Hold, h.c ≠ c → f h = h) : hs.map f = hs.set i (f (hAt hs i)) := by
  apply List.ext_getElem?
  intro j
  rw [List.getElem?_map, List.getElem?_set]
  by_cases e : i = j
  · subst e
    rw [if_pos rfl, if_pos hi, hAt_some hi]
    rfl
  · rw [if_neg e]
    by_cases hj : j < hs.length
    · rw [hAt_some hj, Option.map_some, hf _ (by rw [← hc]; exact (nodH_ne hn hi hj e).symm)]
    · rw [List.getElem?_eq_none (by omega)]
      rfl
theorem setFl_at {hs : List Hold} {c : ByteArray} {i : Nat} (hn : NodH hs) (hi : i < hs.length) (hc : (hAt hs i).c = c) (x : Int) : setFl hs c x = hs.set i ⟨(hAt hs i).c, x, (hAt hs i).last⟩ := by
  unfold setFl
  rw [map_at hn hi hc _ (fun h hh => by rw [if_neg hh]), if_pos hc]
theorem setLast_at {hs : List Hold} {c : ByteArray} {i : Nat} (hn : NodH hs) (hi : i < hs.length) (hc : (hAt hs i).c = c) (x : Int) : setLast hs c x = hs.set i ⟨(hAt hs i).c, (hAt hs i).floor, x⟩ := by
  unfold setLast
  rw [map_at hn hi hc _ (fun h hh => by rw [if_neg hh]), if_pos hc]
theorem floor_at {hs : List Hold} {c : ByteArray} {i : Nat} (hn : NodH hs) (hi : i < hs.length) (hc : (hAt hs i).c = c) : floorOf hs c = (hAt hs i).floor := by
  have := holdOf_of_mem hn (hAt_mem hi)
  rw [hc] at this
  unfold floorOf
  rw [this]

section
variable {w w1 : World} {mb base : Nat} {ms : List ME} {hs : List Hold} {ea : Option Addr} {ec : Nat} {ha : Option Addr} {hc : Nat}

/-- A row of its own was written. -/
theorem ModAt.gK (h : ModAt w mb base ms hs ea ec ha hc) {g : Nat} (hg : w.grownBy w1 (some g)) (h0 : mb ≠ g) (h1 : (Value.slice ea ms.length ec).ownBlock ≠ some g) (h2 : (Value.slice ha hs.length hc).ownBlock ≠ some g) : ModAt w1 mb base ms hs ea ec ha hc :=
  ⟨(hg.block mb h.lt (fun e => h0 (by simpa using e))).trans h.str, h.ent.kept hg (.inr h1), h.hol.kept hg (.inr h2), h.bas⟩

theorem ModAt.setH1 {g i t : Nat} {y : Hold} {u : Value} (h : ModAt w mb base ms hs ea ec (some ⟨g, 0, none⟩) hc) (hi : i < hs.length) (ht : t < 3) (hy : hC1 y = (hC1 (hAt hs i)).set t u) : ModAt (w.setCell ⟨g, i * 3 + t, none⟩ u) mb base ms (hs.set i y) ea ec (some ⟨g, 0, none⟩) hc := by
  obtain ⟨h1, h2⟩ := h.hol.stored (i * 3 + t) u
  have hl : (hs.set i y).length = hs.length := by simp
  have he : hC (hs.set i y) = (hC hs).set (i * 3 + t) u := (flat_set hC1 3 (fun _ => rfl) hs i t (hAt hs i) y u ht (hAt_some hi) hy).symm
  refine ⟨?_, h.ent.kept h2 (by simpa [Value.ownBlock] using own_ne h.ent h.hol (by decide)), by rw [hl, he]; exact h1, h.bas⟩
  rw [hl]
  exact (h2.block mb h.lt (by simpa [Value.ownBlock] using own_nb h.hol h.str (by decide))).trans h.str
theorem ModAt.setE1 {g i t : Nat} {y : ME} {u : Value} (h : ModAt w mb base ms hs (some ⟨g, 0, none⟩) ec ha hc) (hi : i < ms.length) (ht : t < 4) (hy : eC1 y = (eC1 (mAt ms i)).set t u) : ModAt (w.setCell ⟨g, i * 4 + t, none⟩ u) mb base (ms.set i y) hs (some ⟨g, 0, none⟩) ec ha hc := by
  obtain ⟨h1, h2⟩ := h.ent.stored (i * 4 + t) u
  have hl : (ms.set i y).length = ms.length := by simp
  have he : eC (ms.set i y) = (eC ms).set (i * 4 + t) u := (flat_set eC1 4 (fun _ => rfl) ms i t (mAt ms i) y u ht (mAt_some hi) hy).symm
  refine ⟨?_, by rw [hl, he]; exact h1, h.hol.kept h2 (by simpa [Value.ownBlock] using own_ne h.hol h.ent (by decide)), h.bas⟩
  rw [hl]
  exact (h2.block mb h.lt (by simpa [Value.ownBlock] using own_nb h.ent h.str (by decide))).trans h.str
end

/-- Of the first k entries those that stay. -/
def keepK (ms : List ME) (p : ME → Bool) (k : Nat) : List ME := (ms.take k).filter p
theorem keepK_zero (ms : List ME) (p : ME → Bool) : keepK ms p 0 = [] := by simp [keepK]
theorem keepK_all (ms : List ME) (p : ME → Bool) : keepK ms p ms.length = ms.filter p := by simp [keepK]
theorem keepK_succ {ms : List ME} {p : ME → Bool} {k : Nat} (hk : k < ms.length) : keepK ms p (k + 1) = if p (mAt ms k) then keepK ms p k ++ [mAt ms k] else keepK ms p k := by
  unfold keepK
  rw [List.take_add_one, mAt_some hk, Option.toList_some, List.filter_append]
  by_cases h : p (mAt ms k) <;> simp [h]
theorem keepK_len (ms : List ME) (p : ME → Bool) (k : Nat) : (keepK ms p k).length ≤ k := by
  unfold keepK
  exact Nat.le_trans (List.length_filter_le _ _) (by rw [List.length_take]; omega)

def dropP (c : ByteArray) (low : Int) (m : ME) : Bool := !decide (m.e.c = c ∧ m.e.seq < low)
def dropM (ms : List ME) (c : ByteArray) (low : Int) : List ME := ms.filter (dropP c low)
theorem dropM_map (ms : List ME) (c : ByteArray) (low : Int) : (dropM ms c low).map ME.e = dropE (ms.map ME.e) c low := by
  unfold dropM dropE
  rw [List.filter_map]
  rfl

/-- In the filter's loop: the model stands, the row g holds what was kept. -/
def KeepAt (w wr : World) (mb base : Nat) (ms : List ME) (hs : List Hold) (ea : Option Addr) (ec : Nat) (ha : Option Addr) (hc : Nat) (g cap : Nat) (ks : List ME) : Prop :=
  ModAt wr mb base ms hs ea ec ha hc ∧ wr.ownsRow base 87 4 (.slice (some ⟨g, 0, none⟩) ks.length cap) ks.length (eC ks) ∧ Fr base w wr ∧ mb ≠ g ∧ (Value.slice ea ms.length ec).ownBlock ≠ some g ∧ (Value.slice ha hs.length hc).ownBlock ≠ some g

theorem own_ne_new {w : World} {base : Nat} {e : TypeId} {size : Nat} {v : Value} {n : Nat} {xs : List Value} (h : w.ownsRow base e size v n xs) : v.ownBlock ≠ some w.heap.size := by
  intro hv
  have := (h.lt _ hv).2
  omega

theorem KeepAt.start {w w1 : World} {mb base : Nat} {ms : List ME} {hs : List Hold} {ea : Option Addr} {ec : Nat} {ha : Option Addr} {hc : Nat} (h : ModAt w1 mb base ms hs ea ec ha hc) (hb : Fr base w w1) {zc : Array Value} {cap : Nat} (hcap : cap ≤ 1048576) :
    KeepAt w (w1.alloc (.cells (madeCells zc (cap * 4)) 87)) mb base ms hs ea ec ha hc w1.heap.size cap [] := by
  have hl := h.lt
  have hbs := h.bas
  refine ⟨h.below ((Below.refl _ _).alloc (Nat.le_refl _) _), ?_, hb.alloc (by omega) _, by omega, own_ne_new h.ent, own_ne_new h.hol⟩
  exact World.ownsRow_made w1 _ cap (by omega) (by unfold maxLen; omega) (by rw [size_madeCells])

theorem KeepAt.add {w wr w2 : World} {mb base : Nat} {ms : List ME} {hs : List Hold} {ea : Option Addr} {ec : Nat} {ha : Option Addr} {hc : Nat} {g cap : Nat} {ks : List ME} {y : ME} {o : Obj} (h : KeepAt w wr mb base ms hs ea ec ha hc g cap ks)
    (hown : w2.ownsRow base 87 4 (.slice (some ⟨g, 0, none⟩) (ks.length + 1) cap) (ks.length + 1) (eC (ks ++ [y]))) (hg : (wr.alloc o).grownBy w2 (some g)) : KeepAt w w2 mb base ms hs ea ec ha hc g cap (ks ++ [y]) := by
  obtain ⟨h1, h2, h3, h4, h5, h6⟩ := h
  have hg' := (wr.grownBy_alloc o (some g)).trans hg
  have hle : (ks ++ [y]).length = ks.length + 1 := by simp
  have hl := h1.lt
  have hbs := h1.bas
  refine ⟨h1.gK hg' h4 h5 h6, by rw [hle]; exact hown, h3.grown hg' (by omega) (fun k hk => ?_) (fun k hk => ?_), h4, h5, h6⟩
  · cases hk
    exact (own_block h2).1
  · exact own_T87 h2 k hk

def RetMod (w w' : World) (mb base : Nat) (ms : List ME) (hs : List Hold) (e : Ending) : Prop := e = .returned (.tuple #[]) ∧ ModX w' mb base ms hs ∧ Fr base w w'

set_option maxHeartbeats 4000000 in
set_option maxRecDepth 100000 in
/-- zzModelDrop. -/
theorem zzModelDrop {mb base : Nat} {ms : List ME} {hs : List Hold} (c : ByteArray) (low : Int) (w : World) (hl : hs.length ≤ 1000000) (hml : ms.length ≤ 1000000) (hn : NodH hs) (h : ModX w mb base ms hs) :
    Calls Try.prog 34 #[.pointer (some ⟨mb, 0, none⟩), .string c, .int .u64 low] w fun e w' => RetMod w w' mb base (dropM ms c low) (dropH hs c low) e := by
  have HX := hide h
  have HN1 := hide (hn.holdH c)
  clear h hn
  obtain ⟨zc, hzc, hmk0⟩ := make87
  have hmk := hmk0 ms.length (by omega)
  clear hmk0 hzc
  have hl1 := length_holdH hs c
  have hfl := floorOf_holdH hs c c
  obtain ⟨H1, HH1⟩ : ∃ H1, Hid (holdH hs c = H1) := ⟨_, rfl⟩
  have hdr : dropH hs c low = if floorOf hs c < low then setFl H1 c low else H1 := by unfold dropH; rw [HH1.out]
  have HDR := hide hdr
  have HFL := hide hfl
  clear hdr hfl
  go_enter Try.func34, Try.ntmps34
  go_wp2_with fail
  refine (zzHold c w (by omega) HX.out).mono ?_
  rintro e w1 ⟨i, rfl, hi, hic, hX1, hB1⟩
  rw [HH1.out] at hi hic hX1 hl1 HN1 HFL
  obtain ⟨ea, ec, ha, hc, hM⟩ := hX1
  obtain ⟨g, rfl, hgb, hgl, hgm, hcell, hfz⟩ := hM.hform (by omega)
  obtain ⟨d0, d1, d2⟩ := hcell i hi
  have c1 := hM.c1
  have hmlt := hM.lt
  have hcap := own_cap hM.hol
  have hfz1 := hfz (i * 3 + 1)
  unfold maxLen at hcap
  have HM := hide hM
  have HB1 := hide hB1
  have HIC := hide hic
  have HI : Hid (i < H1.length) := hi
  clear hcell hM hB1 hic hfz
  obtain ⟨f, HF⟩ : ∃ f, Hid ((hAt H1 i).floor = f) := ⟨_, rfl⟩
  rw [HF.out] at d1
  have hfl2 : Hid (floorOf hs c = f) := by
    show floorOf hs c = f
    rw [← HFL.out, floor_at HN1.out HI.out HIC.out, HF.out]
  go_upto_if 21 with fail
  go_cut [6] (fun v wx => v = .int .i64 (i : Int) ∧ Hid (ModX wx mb base ms (dropH hs c low) ∧ Fr base w wx))
  case first =>
    by_cases t1 : f < low
    · go_wp2
      go_meet
      case rel =>
        refine ⟨rfl, ?_, HB1.out.setCell (by exact hgb) _ (own_T83 HM.out.hol g rfl)⟩
        rw [HDR.out, hfl2.out, if_pos t1, setFl_at HN1.out HI.out HIC.out]
        exact ⟨_, _, _, _, HM.out.setH1 HI.out (by omega) rfl⟩
    · go_wp2
      go_meet
      case rel => exact ⟨rfl, by rw [HDR.out, hfl2.out, if_neg (by omega)]; exact ⟨_, _, _, _, HM.out⟩, HB1.out⟩
  case rest =>
    obtain ⟨w2, rfl⟩ : ∃ w2 : World, w2 = wc := ⟨_, rfl⟩
    obtain ⟨rfl, HC⟩ := hcut
    obtain ⟨⟨ea, ec, ha, hc, hM2⟩, hB2⟩ := HC.out
    have c0 := hM2.c0
    have hmlt2 := hM2.lt
    have hcap2 := own_cap hM2.ent
    unfold maxLen at hcap2
    have HM2 := hide hM2
    have HB2 := hide hB2
    clear hM2 hB2 HC HM HB1 d0 d1 d2 c1 hfz1 hgb hgl hgm hcap hmlt HX
    obtain ⟨hs2, HS2⟩ : ∃ hs2, Hid (dropH hs c low = hs2) := ⟨_, rfl⟩
    rw [HS2.out] at HM2
    go_wp2_with fail
    go_loopw [7, 8] (fun v i wr => ∃ (k : Nat) (ks : List ME), k ≤ ms.length ∧ i = .int .i64 (k : Int) ∧ v = .slice (some ⟨w2.heap.size, 0, none⟩) ks.length ms.length ∧ Hid (ks = keepK ms (dropP c low) k) ∧ Hid (KeepAt w wr mb base ms hs2 ea ec ha hc w2.heap.size ms.length ks)) (fun _ i _ => ms.length - (intOf i).toNat)
    case atStart => exact ⟨0, [], Nat.zero_le _, rfl, rfl, (keepK_zero _ _).symm, KeepAt.start HM2.out HB2.out (by omega)⟩
    case round =>
      clear c0
      obtain ⟨k, ks, hk, rfl, rfl, HKS, HK⟩ := hrel
      have c0 := HK.out.1.c0
      have hwl := HK.out.1.lt
      by_cases hlt : k < ms.length
      · obtain ⟨ge, rfl, hgb, hgl, hgm, hcell, _⟩ := HK.out.1.eform (by omega)
        obtain ⟨d0, d1, d2, d3⟩ := hcell k hlt
        have hkl : ks.length ≤ k := by rw [HKS.out]; exact keepK_len _ _ _
        clear hcell
        have HSU := hide (keepK_succ (p := dropP c low) hlt)
        obtain ⟨y, HY⟩ : ∃ y, Hid (mAt ms k = y) := ⟨_, rfl⟩
        rw [HY.out] at d0 d1 d2 d3 HSU
        by_cases e1 : y.e.c = c
        · have e1' := beqS_true e1
          have E1 := hide e1
          clear e1
          by_cases e2 : y.e.seq < low
          · go_wp2
            go_roundw
            case rel => exact ⟨k + 1, ks, by omega, by go_num, rfl, by show ks = _; rw [HSU.out, if_neg (by simp [dropP, E1.out, e2])]; exact HKS.out, HK⟩
            case measure => simp [intOf]; omega
          · go_wp2_with (at_builtin; refine fit87 (w := wr.alloc _) y rfl _ _ rfl rfl (HK.out.2.1.alloc _) wr.heap.size rfl (heap_alloc_new wr _) (by omega) ?_)
            intro w3 hown3 hg3
            have HK3 := hide (HK.out.add hown3 hg3)
            have hle : (ks ++ [y]).length = ks.length + 1 := by simp
            clear hown3 hg3
            go_wp2
            go_roundw
            case rel => exact ⟨k + 1, ks ++ [y], by omega, by go_num, by rw [hle], by show ks ++ [y] = _; rw [HSU.out, if_pos (by simp [dropP]; omega), HKS.out], HK3⟩
            case measure => simp [intOf]; omega
        · have e1' := beqS_false e1
          go_wp2_with (at_builtin; refine fit87 (w := wr.alloc _) y rfl _ _ rfl rfl (HK.out.2.1.alloc _) wr.heap.size rfl (heap_alloc_new wr _) (by omega) ?_)
          intro w3 hown3 hg3
          have HK3 := hide (HK.out.add hown3 hg3)
          have hle : (ks ++ [y]).length = ks.length + 1 := by simp
          clear hown3 hg3
          go_wp2
          go_roundw
          case rel => exact ⟨k + 1, ks ++ [y], by omega, by go_num, by rw [hle], by show ks ++ [y] = _; rw [HSU.out, if_pos (by simp [dropP, e1]), HKS.out], HK3⟩
          case measure => simp [intOf]; omega
      · obtain rfl : k = ms.length := by omega
        have hfz := HK.out.1.fz 0
        go_wp2
        go_end0
        have hks : ks = dropM ms c low := by rw [HKS.out, keepK_all]; rfl
        refine ⟨rfl, ?_, HK.out.2.2.1.setCell HK.out.1.bas _ (T57 HK.out.1.str)⟩
        rw [← hks, HS2.out]
        exact ⟨_, _, _, _, ModAt.storeE HK.out.1.str HK.out.1.hol HK.out.2.1 HK.out.1.bas⟩
end Go.Proofs.Qxb6617896a
