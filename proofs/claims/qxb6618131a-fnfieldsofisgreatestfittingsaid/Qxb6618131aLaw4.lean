import Derived.Test.Qxb6618131aCopy
import Derived.Test.Qxb6618131aBytes
import Derived.Deep.DeepCutAuto
namespace Go.Proofs.Qxb6618131a
open Go.ChangeShapes Go.WideShapes Go.ChangeAt Go.RowKit

theorem oneCell_string (s : ByteArray) : ∀ u ∈ [Value.string s], u.oneCell' = true := by
  intro u hu
  simp at hu
  subst hu
  rfl

theorem RetF.len {w : World} {l : List Int} {ok : Bool} {e : Ending} {k : Nat} (h : RetF w l ok e) (hk : l.length = k) : ∃ a c, e = .returned (.tuple #[.slice a k c, .bool ok]) ∧ Sl w a k c (fun i => .int .i64 (l.getD i 0)) := by
  subst hk
  obtain ⟨a, c, he, hs, _⟩ := h
  exact ⟨a, c, he, hs⟩

theorem zzFieldsOf_any (a0 : Option Addr) (n0 c0 : Nat) (H : Nat → ByteArray) (a1 : Option Addr) (n1 c1 : Nat) (C : Nat → ByteArray) (a2 : Option Addr) (n2 c2 : Nat) (O : Nat → ByteArray) (w : World)
    (hb0 : n0 ≤ 1048576) (hb1 : n1 ≤ 1048576)
    (hs0 : Sl w a0 n0 c0 (fun i => .string (H i))) (hs1 : Sl w a1 n1 c1 (fun i => .string (C i))) (hs2 : Sl w a2 n2 c2 (fun i => .string (O i))) :
    Calls Try.prog 8 #[.slice a0 n0 c0, .slice a1 n1 c1, .slice a2 n2 c2] w fun e w' => RetF w' (fo H n0 C n1 (optB O n2)).1 (fo H n0 C n1 (optB O n2)).2 e ∧ Below w.heap.size w w' := by
  obtain ⟨r, hr⟩ : ∃ r, fo H n0 C n1 (optB O n2) = r := ⟨_, rfl⟩
  go_enter Try.func8, Try.ntmps8
  go_wp2_with fail
  refine (fieldsOf_any a0 n0 c0 H a1 n1 c1 C a2 n2 c2 O _ hb0 hb1 hs0 hs1 hs2).mono ?_
  rw [hr]
  rintro e w' ⟨⟨a, c, rfl, hs, hn⟩, hb⟩
  have HS : Hid (Sl w' a r.1.length c (fun i => .int .i64 (r.1.getD i 0))) := hs
  have HN : Hid (a = none ↔ r.1 = []) := hn
  have HB : Hid (Below w.heap.size w w') := hb
  have HR : Hid (fo H n0 C n1 (optB O n2) = r) := hr
  clear hs hn hb hr
  go_wp2
  go_ret2
  rw [HR.out]
  exact ⟨⟨a, c, rfl, HS.out, HN.out⟩, HB.out⟩

set_option maxRecDepth 100000 in
set_option maxHeartbeats 2000000 in
theorem law4_walk (a0 : Option Addr) (n0 c0 : Nat) (C : Nat → ByteArray) (a1 : Option Addr) (n1 c1 : Nat) (O : Nat → ByteArray) (a2 : Option Addr) (n2 c2 : Nat) (D : Nat → Bool) (w : World)
    (hs0 : Sl w a0 n0 c0 (fun i => .string (C i))) (hs1 : Sl w a1 n1 c1 (fun i => .string (O i))) (hs2 : Sl w a2 n2 c2 (fun i => .bool (D i))) :
    Calls Try.prog 4 #[.slice a0 n0 c0, .slice a1 n1 c1, .slice a2 n2 c2] w fun e w' => e = .returned (.bool true) ∧ Below w.heap.size w w' := by
  have H0 : Hid (Sl w a0 n0 c0 (fun i => .string (C i))) := hs0
  have H1 : Hid (Sl w a1 n1 c1 (fun i => .string (O i))) := hs1
  have H2 : Hid (Sl w a2 n2 c2 (fun i => .bool (D i))) := hs2
  clear hs0 hs1 hs2
  have q22 : ∀ (w : World) (a : Option Addr) (n c n' c' : Nat), (binOp .neq 22 (.slice a n c) (.slice none n' c')).run Try.prog w = .ok (.bool (!a.isNone)) w := fun w a n c n' c' => run_neq_slice_nil_any w _ _ a n c n' c' Try.underlying22
  go_enter Try.func4, Try.ntmps4
  go_wp2_with fail
  refine (bytes10_any a0 n0 c0 C a1 n1 c1 O a2 n2 c2 _ H0.out H1.out).mono ?_
  rintro e w' ⟨⟨b, rfl⟩, rfl⟩
  cases b
  · go_wp2
    go_ret
    exact ⟨rfl, Below.refl _ _⟩
  by_cases t0 : (4096 : Int) < (n0 : Int)
  · go_wp2
    go_ret
    exact ⟨rfl, Below.refl _ _⟩
  by_cases t1 : (4096 : Int) < (n1 : Int)
  · go_wp2
    go_ret
    exact ⟨rfl, Below.refl _ _⟩
  by_cases t2 : (4096 : Int) < (n2 : Int)
  · go_wp2
    go_ret
    exact ⟨rfl, Below.refl _ _⟩
  have hm0 := run_make_row' (P := Try.prog) 22 9 (.string ⟨#[]⟩) 16 Try.underlying22 Try.info9 rfl .i64 .i64 n0 (by omega) (by omega)
  have hm1 := run_make_row' (P := Try.prog) 22 9 (.string ⟨#[]⟩) 16 Try.underlying22 Try.info9 rfl .i64 .i64 n1 (by omega) (by omega)
  go_upto_if 36 with fail
  go_cut [0] (fun v0 wx => ∃ a c, v0 = .slice a n0 c ∧ Hid (Sl wx a n0 c (fun i => .string (C i))) ∧ Hid (Below w'.heap.size w' wx))
  case first =>
    cases a0 with
    | none =>
      go_wp2
      go_meet
      case rel => exact ⟨_, _, rfl, H0, Below.refl _ _⟩
    | some x =>
      go_wp2_with (refine wpList_copy_fresh rfl _ _ 22 22 rfl 9 Try.underlying22 Try.size9 _ n0 _ _ rfl rfl (fun i => .string (C i)) _ 9 (World.rowIs_made _ _ _ _) (H0.out.below (by go_grown)) (fun _ => rfl) w'.heap.size w' (by go_grown) (Nat.le_refl _) ?_; intro w2 hr2 hb2; have HR2 : Hid (w2.rowIs w'.heap.size 9 n0 (fun i => .string (C i))) := hr2; have HB2 : Hid (Below w'.heap.size w' w2) := hb2; clear hr2 hb2)
      go_meet
      case rel => exact ⟨_, _, rfl, Sl.of_row (by omega) HR2.out, HB2.out⟩
  case rest =>
    obtain ⟨wo, rfl⟩ : ∃ wo : World, wo = wc := ⟨_, rfl⟩
    obtain ⟨ac, cc, rfl, HC, HB⟩ := hcut
    have H1' : Hid (Sl wo a1 n1 c1 (fun i => .string (O i))) := H1.out.below HB.out
    have H2' : Hid (Sl wo a2 n2 c2 (fun i => .bool (D i))) := H2.out.below HB.out
    clear H0 H1 H2 hm0
    go_upto_if 45 with fail
    go_cut [1] (fun v1 wx => ∃ a c, v1 = .slice a n1 c ∧ Hid (Sl wx a n1 c (fun i => .string (O i))) ∧ Hid (Below wo.heap.size wo wx))
    case first =>
      cases a1 with
      | none =>
        go_wp2
        go_meet
        case rel => exact ⟨_, _, rfl, H1', Below.refl _ _⟩
      | some x =>
        go_wp2_with (refine wpList_copy_fresh rfl _ _ 22 22 rfl 9 Try.underlying22 Try.size9 _ n1 _ _ rfl rfl (fun i => .string (O i)) _ 9 (World.rowIs_made _ _ _ _) (H1'.out.below (by go_grown)) (fun _ => rfl) wo.heap.size wo (by go_grown) (Nat.le_refl _) ?_; intro w2 hr2 hb2; have HR2 : Hid (w2.rowIs wo.heap.size 9 n1 (fun i => .string (O i))) := hr2; have HB2 : Hid (Below wo.heap.size wo w2) := hb2; clear hr2 hb2)
        go_meet
        case rel => exact ⟨_, _, rfl, Sl.of_row (by omega) HR2.out, HB2.out⟩
    case rest =>
      obtain ⟨ao, co, rfl, HO1, HBc⟩ := hcut
      have HC1 : Hid (Sl wc ac n0 cc (fun i => .string (C i))) := HC.out.below HBc.out
      have HD1 : Hid (Sl wc a2 n2 c2 (fun i => .bool (D i))) := H2'.out.below HBc.out
      have HB1 : Hid (Below w'.heap.size w' wc) := HB.out.trans (HBc.out.mono HB.out.size)
      clear hm1
      go_wp2_with fail
      refine (addBytes_any 0 ac n0 cc C _ (by omega) (by omega) HC1.out).mono ?_
      rintro e wy ⟨⟨u, rfl, hu0, hu1⟩, rfl⟩
      go_wp2_with fail
      refine (addBytes_any u ao n1 co O _ (by omega) (by omega) HO1.out).mono ?_
      rintro e wx ⟨⟨u2, rfl, hv0, hv1⟩, rfl⟩
      by_cases hneg : u2 < 0
      · go_wp2
        go_ret
        exact ⟨rfl, HB1.out⟩
      by_cases hbig : 1048576 - u2 < (n2 : Int)
      · go_wp2
        go_ret
        exact ⟨rfl, HB1.out⟩
      clear hu0 hu1 hv0 hv1
      obtain ⟨i9, hi, hz0, hz1, hz2⟩ := info_parts Try.info9
      obtain ⟨keep, hkeep⟩ : ∃ keep : Nat → Bool, ∀ p, keep p = !(decide (p < n2) && D p && optB O n1 (C p)) := ⟨_, fun _ => rfl⟩
      have HKP : Hid (∀ p, keep p = !(decide (p < n2) && D p && optB O n1 (C p))) := hkeep
      clear hkeep
      have HCc : Hid (0 < n0 → ∃ b off, ac = some ⟨b, off, none⟩ ∧ b < wx.heap.size ∧ ∀ i, i < n0 → wx.cell? ⟨b, off + i, none⟩ = some (.string (C i))) := HC1.out.2.2
      have HDc : Hid (0 < n2 → ∃ b off, a2 = some ⟨b, off, none⟩ ∧ b < wx.heap.size ∧ ∀ i, i < n2 → wx.cell? ⟨b, off + i, none⟩ = some (.bool (D i))) := HD1.out.2.2
      go_wp2
      go_loopw [10, 11] (fun v i wr => ∃ (k len : Nat), k ≤ n0 ∧ i = .int .i64 k ∧ len ≤ k ∧ Hid ((left C keep k).length = len) ∧ Hid (wr.ownsRow wx.heap.size 9 1 v len ((left C keep k).map Value.string)) ∧ Hid (len = 0 ↔ v = .slice none 0 0) ∧ Below wx.heap.size wx wr) (fun _ i _ => n0 - (intOf i).toNat)
      case atStart => exact ⟨0, 0, Nat.zero_le _, rfl, Nat.le_refl _, rfl, World.ownsRow_nil _ _ _ _, ⟨fun _ => rfl, fun _ => rfl⟩, Below.refl _ _⟩
      case round =>
        obtain ⟨k, len, hk, rfl, hlk, hlen, hown, hnil, hbw⟩ := hrel
        have HBr : Hid (Below wx.heap.size wx wr) := hbw
        have hsz : wx.heap.size ≤ wr.heap.size := hbw.size
        clear hbw
        by_cases hlt : k < n0
        · obtain ⟨b, off, rfl, hbl, hcell⟩ := HCc.out (by omega)
          have hck : wr.cell? ⟨b, off + k, none⟩ = some (.string (C k)) := (HBr.out.cell (p := ⟨b, off + k, none⟩) hbl).trans (hcell k hlt)
          clear hcell
          by_cases hd : k < n2
          · obtain ⟨b2, off2, rfl, hbl2, hcell2⟩ := HDc.out (by omega)
            have hcd : wr.cell? ⟨b2, off2 + k, none⟩ = some (.bool (D k)) := (HBr.out.cell (p := ⟨b2, off2 + k, none⟩) hbl2).trans (hcell2 k hd)
            clear hcell2
            cases hdk : D k with
            | false =>
              have HK : Hid (keep k = true) := by unfold Hid; rw [HKP.out, hdk]; simp
              rw [hdk] at hcd
              clear hdk
              go_wp2_with (at_builtin; refine wpList_append_own _ rfl _ _ 22 rfl wx.heap.size 9 i9 (.string ⟨#[]⟩) 1 16 Try.underlying22 hi hz0 hz1 hz2 rfl (by decide) _ _ _ rfl (hown.out.alloc _) ⟨wr.heap.size, 0, none⟩ 1 1 [.string (C k)] rfl rfl (cell_one_new _ _ _) (oneCell_string (C k)) (by unfold maxLen; omega) (by omega) (by simp; omega) ?_; intro v' w1 hown' hgrow hn')
              have HO : Hid (w1.ownsRow wx.heap.size 9 1 v' (len + 1) ((left C keep k).map Value.string ++ [.string (C k)])) := hown'
              have HNI : Hid (v' = .slice none 0 0 ↔ u10 = .slice none 0 0 ∧ 1 = 0) := hn'
              have HBs : Hid (Below wx.heap.size wx w1) := (HBr.out.alloc hsz _).grown hgrow (by simp; omega) (own_ge hown.out)
              clear hown' hgrow hn'
              go_wp2
              go_roundw
              case rel =>
                refine ⟨k + 1, len + 1, by omega, by go_num, by omega, ?_, ?_, ⟨fun h => absurd h (by omega), fun h => absurd ((HNI.out.1 h).2) (by omega)⟩, HBs.out⟩
                · unfold Hid; rw [left_succ, if_pos HK.out, List.length_append, hlen.out]; rfl
                · unfold Hid; rw [left_succ, if_pos HK.out, List.map_append]; exact HO.out
              case measure => simp [intOf]; omega
            | true =>
              rw [hdk] at hcd
              have HDK : Hid (D k = true) := hdk
              clear hdk
              go_wp2_with fail
              refine (in_any ao n1 co O (C k) _ (HO1.out.below HBr.out)).mono ?_
              rintro e w2 ⟨rfl, hr⟩
              rcases hr.cases with ⟨ho, rfl⟩ | ⟨ho, rfl⟩
              · have HK : Hid (keep k = false) := by unfold Hid; rw [HKP.out, HDK.out, optB_iff.2 ho]; simp [hd]
                clear ho hr
                go_wp2
                go_roundw
                case rel =>
                  refine ⟨k + 1, len, by omega, by go_num, by omega, ?_, ?_, hnil, HBr.out⟩
                  · unfold Hid; rw [left_succ, if_neg (by rw [HK.out]; simp)]; exact hlen.out
                  · unfold Hid; rw [left_succ, if_neg (by rw [HK.out]; simp)]; exact hown.out
                case measure => simp [intOf]; omega
              · have HK : Hid (keep k = true) := by
                  unfold Hid
                  rw [HKP.out]
                  have : optB O n1 (C k) = false := by
                    cases h : optB O n1 (C k)
                    · rfl
                    · exact absurd (optB_iff.1 h) ho
                  rw [this]; simp
                clear ho hr
                go_wp2_with (at_builtin; refine wpList_append_own _ rfl _ _ 22 rfl wx.heap.size 9 i9 (.string ⟨#[]⟩) 1 16 Try.underlying22 hi hz0 hz1 hz2 rfl (by decide) _ _ _ rfl (hown.out.alloc _) ⟨w2.heap.size, 0, none⟩ 1 1 [.string (C k)] rfl rfl (cell_one_new _ _ _) (oneCell_string (C k)) (by unfold maxLen; omega) (by omega) (by simp; omega) ?_; intro v' w1 hown' hgrow hn')
                have HO : Hid (w1.ownsRow wx.heap.size 9 1 v' (len + 1) ((left C keep k).map Value.string ++ [.string (C k)])) := hown'
                have HNI : Hid (v' = .slice none 0 0 ↔ u10 = .slice none 0 0 ∧ 1 = 0) := hn'
                have HBs : Hid (Below wx.heap.size wx w1) := (HBr.out.alloc hsz _).grown hgrow (by simp; omega) (own_ge hown.out)
                clear hown' hgrow hn'
                go_wp2
                go_roundw
                case rel =>
                  refine ⟨k + 1, len + 1, by omega, by go_num, by omega, ?_, ?_, ⟨fun h => absurd h (by omega), fun h => absurd ((HNI.out.1 h).2) (by omega)⟩, HBs.out⟩
                  · unfold Hid; rw [left_succ, if_pos HK.out, List.length_append, hlen.out]; rfl
                  · unfold Hid; rw [left_succ, if_pos HK.out, List.map_append]; exact HO.out
                case measure => simp [intOf]; omega
          · have HK : Hid (keep k = true) := by unfold Hid; rw [HKP.out]; simp [hd]
            go_wp2_with (at_builtin; refine wpList_append_own _ rfl _ _ 22 rfl wx.heap.size 9 i9 (.string ⟨#[]⟩) 1 16 Try.underlying22 hi hz0 hz1 hz2 rfl (by decide) _ _ _ rfl (hown.out.alloc _) ⟨wr.heap.size, 0, none⟩ 1 1 [.string (C k)] rfl rfl (cell_one_new _ _ _) (oneCell_string (C k)) (by unfold maxLen; omega) (by omega) (by simp; omega) ?_; intro v' w1 hown' hgrow hn')
            have HO : Hid (w1.ownsRow wx.heap.size 9 1 v' (len + 1) ((left C keep k).map Value.string ++ [.string (C k)])) := hown'
            have HNI : Hid (v' = .slice none 0 0 ↔ u10 = .slice none 0 0 ∧ 1 = 0) := hn'
            have HBs : Hid (Below wx.heap.size wx w1) := (HBr.out.alloc hsz _).grown hgrow (by simp; omega) (own_ge hown.out)
            clear hown' hgrow hn'
            go_wp2
            go_roundw
            case rel =>
              refine ⟨k + 1, len + 1, by omega, by go_num, by omega, ?_, ?_, ⟨fun h => absurd h (by omega), fun h => absurd ((HNI.out.1 h).2) (by omega)⟩, HBs.out⟩
              · unfold Hid; rw [left_succ, if_pos HK.out, List.length_append, hlen.out]; rfl
              · unfold Hid; rw [left_succ, if_pos HK.out, List.map_append]; exact HO.out
            case measure => simp [intOf]; omega
        · obtain rfl : k = n0 := by omega
          obtain ⟨ah, ch, hv, hsl, hne⟩ := sl_of_own (d := (default : ByteArray)) hown.out hlen.out hnil.out
          obtain ⟨l, hgl⟩ := greedy_left (opt := optB O n1) (C := C) (m := k) keep (fun i _ hki => by
            have := HKP.out i
            rw [hki] at this
            cases h : optB O n1 (C i)
            · rw [h] at this; simp at this
            · rfl)
          rw [hlen.out] at hgl hsl
          obtain ⟨H, hH⟩ : ∃ H : Nat → ByteArray, (fun i => (left C keep k).getD i default) = H := ⟨_, rfl⟩
          have hsl2 : Sl wr ah len ch (fun i => .string (H i)) := by rw [← hH]; exact hsl
          rw [hH] at hgl
          have HGL : Hid (greedy H len C (optB O n1) k = some (len, l)) := hgl
          have HSH : Hid (Sl wr ah len ch (fun i => .string (H i))) := hsl2
          have HFO : Hid (fo H len C k (optB O n1) = (l, true)) := by unfold Hid; rw [fo_some hgl]; simp
          have hll := (greedy_len hgl).1
          have HLL : Hid (l.length = k) := hll
          rw [hlen.out] at hv
          have HV : Hid (u10 = .slice ah len ch) := hv
          clear hll hgl hsl hsl2 hne hH hv hown hnil hlen HKP
          rw [HV.out]
          go_wp2_with fail
          refine (zzFieldsOf_any ah len ch H ac k cc C ao n1 co O _ (by omega) (by omega) HSH.out (HC1.out.below HBr.out) (HO1.out.below HBr.out)).mono ?_
          rw [HFO.out]
          rintro e w5 ⟨hrf, hb5⟩
          obtain ⟨af, cf, rfl, hsf⟩ := hrf.len HLL.out
          have HB5 : Hid (Below wx.heap.size wx w5) := HBr.out.trans (hb5.mono HBr.out.size)
          have HSF : Hid (0 < k → ∃ b off, af = some ⟨b, off, none⟩ ∧ b < w5.heap.size ∧ ∀ i, i < k → w5.cell? ⟨b, off + i, none⟩ = some (.int .i64 (l.getD i 0))) := hsf.2.2
          have HSH5 : Hid (0 < len → ∃ b off, ah = some ⟨b, off, none⟩ ∧ b < w5.heap.size ∧ ∀ i, i < len → w5.cell? ⟨b, off + i, none⟩ = some (.string (H i))) := (HSH.out.below hb5).2.2
          have HC5 : Hid (0 < k → ∃ b off, ac = some ⟨b, off, none⟩ ∧ b < w5.heap.size ∧ ∀ i, i < k → w5.cell? ⟨b, off + i, none⟩ = some (.string (C i))) := ((HC1.out.below HBr.out).below hb5).2.2
          have HO5 : Hid (Sl w5 ao n1 co (fun i => .string (O i))) := (HO1.out.below HBr.out).below hb5
          clear hrf hb5 hsf HFO HSH HBr hsz
          have hne : ((k : Int) != (k : Int)) = false := by simp
          go_wp2
          go_loopw [14, 15] (fun x i wr => ∃ (p nx : Nat) (lp : List Int), p ≤ k ∧ i = .int .i64 p ∧ x = .int .i64 nx ∧ nx ≤ p ∧ Hid (greedy H len C (optB O n1) p = some (nx, lp)) ∧ Below w5.heap.size w5 wr) (fun _ i _ => k - (intOf i).toNat)
          case atStart => exact ⟨0, 0, [], Nat.zero_le _, rfl, rfl, Nat.le_refl _, rfl, Below.refl _ _⟩
          case round =>
            obtain ⟨p, nx, lp, hp, rfl, rfl, hnp, hgp, hbw⟩ := hrel
            have HBr : Hid (Below w5.heap.size w5 wr) := hbw
            clear hbw
            by_cases hlt : p < k
            · obtain ⟨b, off, rfl, hbl, hcell⟩ := HC5.out (by omega)
              have hck : wr.cell? ⟨b, off + p, none⟩ = some (.string (C p)) := (HBr.out.cell (p := ⟨b, off + p, none⟩) hbl).trans (hcell p hlt)
              clear hcell
              obtain ⟨bf, offf, rfl, hblf, hcellf⟩ := HSF.out (by omega)
              have hcf : wr.cell? ⟨bf, offf + p, none⟩ = some (.int .i64 (l.getD p 0)) := (HBr.out.cell (p := ⟨bf, offf + p, none⟩) hblf).trans (hcellf p hlt)
              clear hcellf
              rcases greedy_step HGL.out hlt hgp.out with ⟨hx1, hx2, hx3, hx4⟩ | ⟨hx1, hx2, hx3⟩
              · rw [hx3] at hcf
                have HX4 : Hid (greedy H len C (optB O n1) (p + 1) = some (nx + 1, lp ++ [(nx : Int)])) := hx4
                obtain ⟨bh, offh, rfl, hblh, hcellh⟩ := HSH5.out (by omega)
                have hch : wr.cell? ⟨bh, offh + nx, none⟩ = some (.string (H nx)) := (HBr.out.cell (p := ⟨bh, offh + nx, none⟩) hblh).trans (hcellh nx hx1)
                clear hcellh
                have hq1 : ((nx : Int) == -1) = false := by rw [beq_eq_false_iff_ne]; omega
                have hq2 : ((nx : Int) != (nx : Int)) = false := by simp
                have hq3 : decide ((len : Int) ≤ (nx : Int)) = false := decide_eq_false (by omega)
                have hq4 : ((H nx).toList == (C p).toList) = true := beqS_true hx2
                have hx1' : (nx : Int) < (len : Int) := by omega
                have hlt' : (p : Int) < (k : Int) := by omega
                clear hx2 hx3 hx4
                go_wp2
                go_quiet (fail)
                go_wp2
                go_roundw
                case rel => exact ⟨p + 1, nx + 1, lp ++ [(nx : Int)], by omega, by go_num, by go_num, by omega, HX4, below_drewN HBr.out _⟩
                case measure => simp [intOf]; omega
              · rw [hx2] at hcf
                have HX3 : Hid (greedy H len C (optB O n1) (p + 1) = some (nx, lp ++ [-1])) := hx3
                have HX1 : Hid (AmongS O n1 (C p)) := optB_iff.1 hx1
                clear hx1 hx2 hx3
                go_wp2_with fail
                refine (in_any ao n1 co O (C p) _ (HO5.out.below HBr.out)).mono ?_
                rintro e w6 ⟨rfl, hr⟩
                rcases hr.cases with ⟨ho, rfl⟩ | ⟨ho, rfl⟩
                case inr => exact absurd HX1.out ho
                clear ho hr
                go_wp2
                go_roundw
                case rel => exact ⟨p + 1, nx, lp ++ [-1], by omega, by go_num, rfl, by omega, HX3, HBr.out⟩
                case measure => simp [intOf]; omega
            · obtain rfl : p = k := by omega
              have hnl : nx = len := by
                have := hgp.out
                rw [HGL.out] at this
                simp only [Option.some.injEq, Prod.mk.injEq] at this
                exact this.1.symm
              have hq : ((nx : Int) == (len : Int)) = true := by rw [beq_iff_eq]; omega
              clear hnl
              go_wp2
              go_ret
              exact ⟨rfl, HB1.out.trans ((HB5.out.trans (HBr.out.mono HB5.out.size)).mono HB1.out.size)⟩

end Go.Proofs.Qxb6618131a
