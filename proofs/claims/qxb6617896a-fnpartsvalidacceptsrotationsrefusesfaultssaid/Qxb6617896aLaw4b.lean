import Derived.Test.Qxb6617896aRotPlain
import Derived.Test.Qxb6617896aOpen
namespace Go.Proofs.Qxb6617896a
open Go.ChangeShapes Go.WideShapes Go.ChangeAt Go.RowKit

set_option maxRecDepth 100000 in
set_option maxHeartbeats 4000000 in
theorem law4_walk_some (a0 : Option Addr) (n0 c0 : Nat) (S0 : Nat → ByteArray) (y : Addr) (n1 c1 : Nat) (S1 : Nat → ByteArray) (s t at_ other : Int) (g : ByteArray) (w : World)
    (hs0 : Sl w a0 n0 c0 (fun i => .string (S0 i))) (hs1 : Sl w (some y) n1 c1 (fun i => .string (S1 i)))
    (hs : 0 ≤ s ∧ s ≤ 18446744073709551615) (ht : 0 ≤ t ∧ t ≤ 18446744073709551615) (hat : 0 ≤ at_ ∧ at_ ≤ 18446744073709551615) (hot : 0 ≤ other ∧ other ≤ 18446744073709551615) :
    Calls Try.prog 4 #[.slice a0 n0 c0, .slice (some y) n1 c1, .int .u64 s, .int .u64 t, .int .u64 at_, .int .u64 other, .string g] w fun e w' => e = .returned (.bool true) ∧ Below w.heap.size w w' := by
  have H0 : Hid (Sl w a0 n0 c0 (fun i => .string (S0 i))) := hs0
  have H1 : Hid (Sl w (some y) n1 c1 (fun i => .string (S1 i))) := hs1
  clear hs0 hs1
  have HS := hs
  have q22 : ∀ (w : World) (a : Option Addr) (n c n' c' : Nat), (binOp .neq 22 (.slice a n c) (.slice none n' c')).run Try.prog w = .ok (.bool (!a.isNone)) w := fun w a n c n' c' => run_neq_slice_nil_any w _ _ a n c n' c' Try.underlying22
  obtain ⟨i0, hi, hz0, hz1, hz2⟩ := info_parts Try.info3
  obtain ⟨N, hN⟩ : ∃ N, N = nParts n0 := ⟨_, rfl⟩
  have hnp := nParts_bd n0
  rw [← hN] at hnp
  have HN : Hid (N = nParts n0) := hN
  clear hN
  go_enter Try.func4, Try.ntmps4
  go_wp2_with fail
  refine (bytes13_any a0 n0 c0 S0 (some y) n1 c1 S1 s t at_ other g _ H0.out H1.out).mono ?_
  rintro e w' ⟨⟨b, rfl⟩, rfl⟩
  cases b
  · go_wp2
    go_ret
    exact ⟨rfl, Below.refl _ _⟩
  by_cases t0 : (4096 : Int) < (n0 : Int)
  · go_wp2
    go_ret
    exact ⟨rfl, Below.refl _ _⟩
  by_cases t1 : (4096 : Int) < (n1 : Int)
  · go_wp2
    go_ret
    exact ⟨rfl, Below.refl _ _⟩
  by_cases t4 : (65536 : Int) < (g.size : Int)
  · go_wp2
    go_ret
    exact ⟨rfl, Below.refl _ _⟩
  go_wp2_with fail
  refine (stringsOver_any a0 n0 c0 S0 _ _ (by omega) (by omega) H0.out).mono ?_
  rintro e w1 ⟨⟨u, b, rfl, hu0, hu1⟩, rfl⟩
  cases b
  case true =>
    go_wp2
    go_ret
    exact ⟨rfl, Below.refl _ _⟩
  go_wp2_with fail
  refine (stringsOver_any (some y) n1 c1 S1 _ _ (by omega) (by omega) H1.out).mono ?_
  rintro e w0 ⟨⟨u2, b, rfl, hv0, hv1⟩, rfl⟩
  cases b
  case true =>
    go_wp2
    go_ret
    exact ⟨rfl, Below.refl _ _⟩
  clear hu0 hu1 hv0 hv1 H0 H1
  have hn0 : n0 ≤ 4096 := by omega
  have hn1 : n1 ≤ 4096 := by omega
  go_wp2_with fail
  refine (partsOf_any n0 (by omega) _).mono ?_
  rintro e w1 ⟨rfl, rfl⟩
  rw [← HN.out]
  go_wp2_with fail
  refine (rotation_any n0 s _ (by omega) hs.1 hs.2).mono ?_
  rintro e w2 ⟨⟨B1, rfl, hB1, hr1⟩, hb2⟩
  have HB2 : Hid (Below w1.heap.size w1 w2) := hb2
  have HP2 : Hid (Sl w2 (some ⟨B1, 0, none⟩) n0 n0 (fun i => .int .i64 (rot n0 s i))) := Sl.of_row (by omega) hr1
  clear hb2 hr1
  go_wp2_with fail
  refine (rotation_any n1 t _ (by omega) ht.1 ht.2).mono ?_
  rintro e w3 ⟨⟨B2, rfl, hB2, hr2⟩, hb3⟩
  have HB3 : Hid (Below w1.heap.size w1 w3) := HB2.out.trans (hb3.mono HB2.out.size)
  have HP3 : Hid (Sl w3 (some ⟨B1, 0, none⟩) n0 n0 (fun i => .int .i64 (rot n0 s i))) := HP2.out.below hb3
  have HQ3 : Hid (Sl w3 (some ⟨B2, 0, none⟩) n1 n1 (fun i => .int .i64 (rot n1 t i))) := Sl.of_row (by omega) hr2
  clear hb3 hr2 HB2 HP2 hB2
  go_wp2_with fail
  refine (partsValid_any a0 n0 c0 none 0 0 (some ⟨B1, 0, none⟩) n0 n0 (rot n0 s) none 0 0 (fun _ => 0) g _ (by omega) (by omega) (HP3.out.below (by go_grown)) (Sl.of_nil)).mono ?_
  rintro e w4 ⟨hr, hb⟩
  have hbi : Below w3.heap.size w3 w4 := ((Below.refl _ _).alloc (Nat.le_refl _) _).trans (hb.mono (by simp))
  have HB4 : Hid (Below w1.heap.size w1 w4) := HB3.out.trans (hbi.mono HB3.out.size)
  have HP4 : Hid (Sl w4 (some ⟨B1, 0, none⟩) n0 n0 (fun i => .int .i64 (rot n0 s i))) := HP3.out.below hbi
  have HQ4 : Hid (Sl w4 (some ⟨B2, 0, none⟩) n1 n1 (fun i => .int .i64 (rot n1 t i))) := HQ3.out.below hbi
  clear hb hbi HB3 HP3 HQ3
  rcases hr.cases with ⟨hx, rfl⟩ | ⟨hx, rfl⟩
  case inr => exact absurd (⟨⟨fun _ => rfl, fun h => absurd rfl h⟩, valid_rot _ _ _, valid_nil _ _⟩) hx
  clear hr hx
  go_wp2_with fail
  refine (partsValid_any a0 n0 c0 (some y) n1 c1 (some ⟨B1, 0, none⟩) n0 n0 (rot n0 s) (some ⟨B2, 0, none⟩) n1 n1 (rot n1 t) g _ (by omega) (by omega) (HP4.out.below (by go_grown)) (HQ4.out.below (by go_grown))).mono ?_
  rintro e w5 ⟨hr, hb⟩
  have hbi : Below w4.heap.size w4 w5 := ((Below.refl _ _).alloc (Nat.le_refl _) _).trans (hb.mono (by simp))
  have HB5 : Hid (Below w1.heap.size w1 w5) := HB4.out.trans (hbi.mono HB4.out.size)
  have HP5 : Hid (Sl w5 (some ⟨B1, 0, none⟩) n0 n0 (fun i => .int .i64 (rot n0 s i))) := HP4.out.below hbi
  have HQ5 : Hid (Sl w5 (some ⟨B2, 0, none⟩) n1 n1 (fun i => .int .i64 (rot n1 t i))) := HQ4.out.below hbi
  clear hb hbi HB4 HP4 HQ4
  rcases hr.cases with ⟨hx, rfl⟩ | ⟨hx, rfl⟩
  case inr => exact absurd (⟨⟨fun h => (by cases h), fun _ => ⟨fun h => (by cases h), fun h => (by cases h)⟩⟩, valid_rot _ _ _, valid_rot _ _ _⟩) hx
  clear hr hx
  go_wp2_with fail
  refine (partsValid_any a0 n0 c0 (some y) n1 c1 none 0 0 (fun _ => 0) none 0 0 (fun _ => 0) g _ (by omega) (by omega) (Sl.of_nil) (Sl.of_nil)).mono ?_
  rintro e w6 ⟨hr, hb⟩
  have hbi : Below w5.heap.size w5 w6 := ((Below.refl _ _).alloc (Nat.le_refl _) _).trans (hb.mono (by simp))
  have HB6 : Hid (Below w1.heap.size w1 w6) := HB5.out.trans (hbi.mono HB5.out.size)
  have HP6 : Hid (Sl w6 (some ⟨B1, 0, none⟩) n0 n0 (fun i => .int .i64 (rot n0 s i))) := HP5.out.below hbi
  have HQ6 : Hid (Sl w6 (some ⟨B2, 0, none⟩) n1 n1 (fun i => .int .i64 (rot n1 t i))) := HQ5.out.below hbi
  clear hb hbi HB5 HP5 HQ5
  rcases hr.cases with ⟨hx, rfl⟩ | ⟨hx, rfl⟩
  case inr => exact absurd (⟨⟨fun h => (by cases h), fun _ => ⟨fun _ => rfl, fun _ => rfl⟩⟩, valid_nil _ _, valid_nil _ _⟩) hx
  clear hr hx
  go_wp2_with fail
  refine (partsValid_any a0 n0 c0 (some y) n1 c1 (some ⟨B1, 0, none⟩) n0 n0 (rot n0 s) none 0 0 (fun _ => 0) g _ (by omega) (by omega) (HP6.out.below (by go_grown)) (Sl.of_nil)).mono ?_
  rintro e w7 ⟨hr, hb⟩
  have hbi : Below w6.heap.size w6 w7 := ((Below.refl _ _).alloc (Nat.le_refl _) _).trans (hb.mono (by simp))
  have HB7 : Hid (Below w1.heap.size w1 w7) := HB6.out.trans (hbi.mono HB6.out.size)
  have HP7 : Hid (Sl w7 (some ⟨B1, 0, none⟩) n0 n0 (fun i => .int .i64 (rot n0 s i))) := HP6.out.below hbi
  have HQ7 : Hid (Sl w7 (some ⟨B2, 0, none⟩) n1 n1 (fun i => .int .i64 (rot n1 t i))) := HQ6.out.below hbi
  clear hb hbi HB6 HP6 HQ6
  rcases hr.cases with ⟨hx, rfl⟩ | ⟨hx, rfl⟩
  case inl => exact absurd hx (fun h => (by cases (h.1.2 (by simp)).2 rfl))
  clear hr hx
  go_wp2_with fail
  refine (partsValid_any a0 n0 c0 (some y) n1 c1 none 0 0 (fun _ => 0) (some ⟨B2, 0, none⟩) n1 n1 (rot n1 t) g _ (by omega) (by omega) (Sl.of_nil) (HQ7.out.below (by go_grown))).mono ?_
  rintro e w8 ⟨hr, hb⟩
  have hbi : Below w7.heap.size w7 w8 := ((Below.refl _ _).alloc (Nat.le_refl _) _).trans (hb.mono (by simp))
  have HB8 : Hid (Below w1.heap.size w1 w8) := HB7.out.trans (hbi.mono HB7.out.size)
  have HP8 : Hid (Sl w8 (some ⟨B1, 0, none⟩) n0 n0 (fun i => .int .i64 (rot n0 s i))) := HP7.out.below hbi
  have HQ8 : Hid (Sl w8 (some ⟨B2, 0, none⟩) n1 n1 (fun i => .int .i64 (rot n1 t i))) := HQ7.out.below hbi
  clear hb hbi HB7 HP7 HQ7
  rcases hr.cases with ⟨hx, rfl⟩ | ⟨hx, rfl⟩
  case inl => exact absurd hx (fun h => (by cases (h.1.2 (by simp)).1 rfl))
  clear hr hx
  clear HQ8
  go_wp2_with fail
  refine (cloneInts_any ⟨B1, 0, none⟩ n0 n0 (rot n0 s) _ (by omega) HP8.out).mono ?_
  rintro e w9 ⟨⟨B3, rfl, hB3, hr3⟩, hb⟩
  have HBc : Hid (Below w8.heap.size w8 w9) := hb
  have HO : Hid (w9.ownsRow w8.heap.size 3 1 (.slice (some ⟨B3, 0, none⟩) n0 n0) n0 ((List.range n0).map (fun i => Value.int .i64 (rot n0 s i)))) := ownsRow_of_row (by omega) hB3 hr3
  have hsz : w8.heap.size ≤ w9.heap.size := hb.size
  clear hb hr3
  go_wp2_with (at_builtin; refine wpList_append_own _ rfl _ _ 23 rfl w8.heap.size 3 i0 (.int .i64 0) 1 8 Try.underlying23 hi hz0 hz1 hz2 rfl (by decide) _ _ _ rfl (HO.out.alloc _) ⟨w9.heap.size, 0, none⟩ 1 1 [.int .i64 (N : Int)] rfl rfl (cell_one_new _ _ _) (ints_oneCell .i64 [(N : Int)]) (by unfold maxLen; omega) (by omega) (by simp; omega) ?_; intro v10 w10 hown hgrow _; obtain ⟨g3, cap3, hv3, hs3⟩ := sl_of_appended hown; rw [hv3]; have HBd : Hid (Below w8.heap.size w8 w10) := (HBc.out.alloc hsz _).grown hgrow (by simp; omega) (fun k hk => by cases hk; exact hB3); have HL : Hid (Sl w10 (some ⟨g3, 0, none⟩) (n0 + 1) cap3 (fun i => .int .i64 (if i < n0 then rot n0 s i else (N : Int)))) := hs3; clear hown hgrow hv3 hs3 HO HBc hsz hB3)
  have HB10 : Hid (Below w1.heap.size w1 w10) := HB8.out.trans (HBd.out.mono HB8.out.size)
  have HP10 : Hid (Sl w10 (some ⟨B1, 0, none⟩) n0 n0 (fun i => .int .i64 (rot n0 s i))) := HP8.out.below HBd.out
  clear HBd HB8 HP8
  go_wp2_with fail
  refine (partsValid_any a0 n0 c0 none 0 0 (some ⟨g3, 0, none⟩) (n0 + 1) cap3 (fun i => if i < n0 then rot n0 s i else (N : Int)) none 0 0 (fun _ => 0) g _ (by omega) (by omega) (HL.out.below (by go_grown)) (Sl.of_nil)).mono ?_
  rintro e w11 ⟨hr, hb⟩
  have hbi : Below w10.heap.size w10 w11 := ((Below.refl _ _).alloc (Nat.le_refl _) _).trans (hb.mono (by simp))
  have HB11 : Hid (Below w1.heap.size w1 w11) := HB10.out.trans (hbi.mono HB10.out.size)
  have HP11 : Hid (Sl w11 (some ⟨B1, 0, none⟩) n0 n0 (fun i => .int .i64 (rot n0 s i))) := HP10.out.below hbi
  clear hb hbi HB10 HP10
  rcases hr.cases with ⟨hx, rfl⟩ | ⟨hx, rfl⟩
  case inl => exact absurd hx (fun h => not_valid_len (by omega) h.2.1)
  clear hr hx
  clear HL
  by_cases hk1 : (1 : Int) ≤ (n0 : Int)
  case neg =>
    go_wp2
    go_ret
    exact ⟨rfl, HB11.out⟩
  obtain ⟨J, hJ⟩ : ∃ J : Nat, at_ % (n0 : Int) = (J : Int) := ⟨(at_ % (n0 : Int)).toNat, by have := Int.emod_nonneg at_ (b := (n0 : Int)) (by omega); omega⟩
  have hJn : J < n0 := by have := Int.emod_lt_of_pos at_ (b := (n0 : Int)) (by omega); omega
  go_wp2_with fail
  refine (cloneInts_any ⟨B1, 0, none⟩ n0 n0 (rot n0 s) _ (by omega) HP11.out).mono ?_
  rintro e w12 ⟨⟨B4, rfl, hB, hr⟩, hb⟩
  have HBc : Hid (Below w11.heap.size w11 w12) := hb
  have hc := hr.cell (i := J) hJn
  have hf := hr.frozen J
  have HZ : Hid (Sl (w12.setCell ⟨B4, J, none⟩ (.int .i64 0)) (some ⟨B4, 0, none⟩) n0 n0 (fun i => .int .i64 (if i = J then 0 else rot n0 s i))) := (Sl.of_row (by omega) (hr.set J (.int .i64 0))).congr fun p _ => (by show (if p = J then _ else _) = Value.int .i64 (if p = J then _ else _); split <;> rfl)
  have hsz : w11.heap.size ≤ w12.heap.size := hb.size
  clear hb hr
  go_wp2_with fail
  refine (partsValid_any a0 n0 c0 none 0 0 (some ⟨B4, 0, none⟩) n0 n0 (fun i => if i = J then 0 else rot n0 s i) none 0 0 (fun _ => 0) g _ (by omega) (by omega) (HZ.out.below (by go_grown)) Sl.of_nil).mono ?_
  rintro e w13 ⟨hr, hb⟩
  have hbi : Below w11.heap.size w11 w13 := ((HBc.out.setCell hB _).alloc (by simp; omega) _).trans (hb.mono (by simp; omega))
  have HB13 : Hid (Below w1.heap.size w1 w13) := HB11.out.trans (hbi.mono HB11.out.size)
  have HP13 : Hid (Sl w13 (some ⟨B1, 0, none⟩) n0 n0 (fun i => .int .i64 (rot n0 s i))) := HP11.out.below hbi
  clear hb hbi HB11 HP11 HZ HBc hc hf hsz hB
  rcases hr.cases with ⟨hx, rfl⟩ | ⟨hx, rfl⟩
  case inl => exact absurd hx (fun h => not_valid_low (j := J) hJn (by show (if J = J then _ else _) < _; rw [if_pos rfl]; omega) h.2.1)
  clear hr hx
  go_wp2_with fail
  refine (cloneInts_any ⟨B1, 0, none⟩ n0 n0 (rot n0 s) _ (by omega) HP13.out).mono ?_
  rintro e w14 ⟨⟨B5, rfl, hB, hr⟩, hb⟩
  have HBc : Hid (Below w13.heap.size w13 w14) := hb
  have hc := hr.cell (i := J) hJn
  have hf := hr.frozen J
  have HZ : Hid (Sl (w14.setCell ⟨B5, J, none⟩ (.int .i64 ((N : Int) + 1))) (some ⟨B5, 0, none⟩) n0 n0 (fun i => .int .i64 (if i = J then (N : Int) + 1 else rot n0 s i))) := (Sl.of_row (by omega) (hr.set J (.int .i64 ((N : Int) + 1)))).congr fun p _ => (by show (if p = J then _ else _) = Value.int .i64 (if p = J then _ else _); split <;> rfl)
  have hsz : w13.heap.size ≤ w14.heap.size := hb.size
  clear hb hr
  go_wp2_with fail
  refine (partsValid_any a0 n0 c0 none 0 0 (some ⟨B5, 0, none⟩) n0 n0 (fun i => if i = J then (N : Int) + 1 else rot n0 s i) none 0 0 (fun _ => 0) g _ (by omega) (by omega) (HZ.out.below (by go_grown)) Sl.of_nil).mono ?_
  rintro e w15 ⟨hr, hb⟩
  have hbi : Below w13.heap.size w13 w15 := ((HBc.out.setCell hB _).alloc (by simp; omega) _).trans (hb.mono (by simp; omega))
  have HB15 : Hid (Below w1.heap.size w1 w15) := HB13.out.trans (hbi.mono HB13.out.size)
  have HP15 : Hid (Sl w15 (some ⟨B1, 0, none⟩) n0 n0 (fun i => .int .i64 (rot n0 s i))) := HP13.out.below hbi
  clear hb hbi HB13 HP13 HZ HBc hc hf hsz hB
  rcases hr.cases with ⟨hx, rfl⟩ | ⟨hx, rfl⟩
  case inl => exact absurd hx (fun h => not_valid_high (j := J) hJn (by show _ < (if J = J then _ else _); rw [if_pos rfl, ← HN.out]; omega) h.2.1)
  clear hr hx
  go_wp2_with fail
  refine (cloneInts_any ⟨B1, 0, none⟩ (n0 - 1) n0 (rot n0 s) _ (by omega) (HP15.out.take (by omega))).mono ?_
  rintro e w16 ⟨⟨B6, rfl, hB, hr⟩, hb⟩
  have HB16 : Hid (Below w1.heap.size w1 w16) := HB15.out.trans (hb.mono HB15.out.size)
  have HP16 : Hid (Sl w16 (some ⟨B1, 0, none⟩) n0 n0 (fun i => .int .i64 (rot n0 s i))) := HP15.out.below hb
  have HL : Hid (Sl w16 (some ⟨B6, 0, none⟩) (n0 - 1) (n0 - 1) (fun i => .int .i64 (rot n0 s i))) := Sl.of_row (by omega) hr
  clear hb hr hB HB15 HP15
  go_wp2_with fail
  refine (partsValid_any a0 n0 c0 none 0 0 (some ⟨B6, 0, none⟩) (n0 - 1) (n0 - 1) (rot n0 s) none 0 0 (fun _ => 0) g _ (by omega) (by omega) (HL.out.below (by go_grown)) (Sl.of_nil)).mono ?_
  rintro e w17 ⟨hr, hb⟩
  have hbi : Below w16.heap.size w16 w17 := ((Below.refl _ _).alloc (Nat.le_refl _) _).trans (hb.mono (by simp))
  have HB17 : Hid (Below w1.heap.size w1 w17) := HB16.out.trans (hbi.mono HB16.out.size)
  have HP17 : Hid (Sl w17 (some ⟨B1, 0, none⟩) n0 n0 (fun i => .int .i64 (rot n0 s i))) := HP16.out.below hbi
  clear hb hbi HB16 HP16
  rcases hr.cases with ⟨hx, rfl⟩ | ⟨hx, rfl⟩
  case inl => exact absurd hx (fun h => not_valid_len (by omega) h.2.1)
  clear hr hx
  clear HL
  by_cases hk2 : (2 : Int) ≤ (n0 : Int)
  case neg =>
    go_wp2
    go_ret
    exact ⟨rfl, HB17.out⟩
  obtain ⟨O, hO⟩ : ∃ O : Nat, other % ((n0 : Int) - 1) = (O : Int) := ⟨(other % ((n0 : Int) - 1)).toNat, by have := Int.emod_nonneg other (b := (n0 : Int) - 1) (by omega); omega⟩
  have hOn : O < n0 - 1 := by have := Int.emod_lt_of_pos other (b := (n0 : Int) - 1) (by omega); omega
  by_cases hOJ : (J : Int) ≤ (O : Int)
  · go_wp2_with fail
    refine (cloneInts_any ⟨B1, 0, none⟩ n0 n0 (rot n0 s) _ (by omega) HP17.out).mono ?_
    rintro e w18 ⟨⟨B7, rfl, hB, hr⟩, hb⟩
    have HBc : Hid (Below w17.heap.size w17 w18) := hb
    have hc := hr.cell (i := J) hJn
    have hf := hr.frozen J
    have hco : w18.cell? ⟨B1, O + 1, none⟩ = some (.int .i64 (rot n0 s (O + 1))) := (HP17.out.below hb).cell0 (by omega)
    have HZ : Hid (Sl (w18.setCell ⟨B7, J, none⟩ (.int .i64 (rot n0 s (O + 1)))) (some ⟨B7, 0, none⟩) n0 n0 (fun i => .int .i64 (if i = J then rot n0 s (O + 1) else rot n0 s i))) := (Sl.of_row (by omega) (hr.set J (.int .i64 (rot n0 s (O + 1))))).congr fun p _ => (by show (if p = J then _ else _) = Value.int .i64 (if p = J then _ else _); split <;> rfl)
    have hsz : w17.heap.size ≤ w18.heap.size := hb.size
    clear hb hr
    go_wp2_with fail
    refine (partsValid_any a0 n0 c0 none 0 0 (some ⟨B7, 0, none⟩) n0 n0 (fun i => if i = J then rot n0 s (O + 1) else rot n0 s i) none 0 0 (fun _ => 0) g _ (by omega) (by omega) (HZ.out.below (by go_grown)) Sl.of_nil).mono ?_
    rintro e w19 ⟨hr, hb⟩
    have hbi : Below w17.heap.size w17 w19 := ((HBc.out.setCell hB _).alloc (by simp; omega) _).trans (hb.mono (by simp; omega))
    have HB19 : Hid (Below w1.heap.size w1 w19) := HB17.out.trans (hbi.mono HB17.out.size)
    have HP19 : Hid (Sl w19 (some ⟨B1, 0, none⟩) n0 n0 (fun i => .int .i64 (rot n0 s i))) := HP17.out.below hbi
    clear hb hbi HB17 HP17 HZ HBc hc hf hsz hB hco
    rcases hr.cases with ⟨hx, rfl⟩ | ⟨hx, rfl⟩
    case inl => exact absurd hx (fun h => not_valid_twin (j := J) (o := O + 1) hJn (by omega) (by omega) (by show (if J = J then _ else _) = (if O + 1 = J then _ else _); rw [if_pos rfl, if_neg (by omega)]) h.2.1)
    clear hr hx
    go_wp2
    go_ret
    exact ⟨rfl, HB19.out⟩
  · go_wp2_with fail
    refine (cloneInts_any ⟨B1, 0, none⟩ n0 n0 (rot n0 s) _ (by omega) HP17.out).mono ?_
    rintro e w18 ⟨⟨B7, rfl, hB, hr⟩, hb⟩
    have HBc : Hid (Below w17.heap.size w17 w18) := hb
    have hc := hr.cell (i := J) hJn
    have hf := hr.frozen J
    have hco : w18.cell? ⟨B1, O, none⟩ = some (.int .i64 (rot n0 s (O))) := (HP17.out.below hb).cell0 (by omega)
    have HZ : Hid (Sl (w18.setCell ⟨B7, J, none⟩ (.int .i64 (rot n0 s (O)))) (some ⟨B7, 0, none⟩) n0 n0 (fun i => .int .i64 (if i = J then rot n0 s (O) else rot n0 s i))) := (Sl.of_row (by omega) (hr.set J (.int .i64 (rot n0 s (O))))).congr fun p _ => (by show (if p = J then _ else _) = Value.int .i64 (if p = J then _ else _); split <;> rfl)
    have hsz : w17.heap.size ≤ w18.heap.size := hb.size
    clear hb hr
    go_wp2_with fail
    refine (partsValid_any a0 n0 c0 none 0 0 (some ⟨B7, 0, none⟩) n0 n0 (fun i => if i = J then rot n0 s (O) else rot n0 s i) none 0 0 (fun _ => 0) g _ (by omega) (by omega) (HZ.out.below (by go_grown)) Sl.of_nil).mono ?_
    rintro e w19 ⟨hr, hb⟩
    have hbi : Below w17.heap.size w17 w19 := ((HBc.out.setCell hB _).alloc (by simp; omega) _).trans (hb.mono (by simp; omega))
    have HB19 : Hid (Below w1.heap.size w1 w19) := HB17.out.trans (hbi.mono HB17.out.size)
    have HP19 : Hid (Sl w19 (some ⟨B1, 0, none⟩) n0 n0 (fun i => .int .i64 (rot n0 s i))) := HP17.out.below hbi
    clear hb hbi HB17 HP17 HZ HBc hc hf hsz hB hco
    rcases hr.cases with ⟨hx, rfl⟩ | ⟨hx, rfl⟩
    case inl => exact absurd hx (fun h => not_valid_twin (j := J) (o := O) hJn (by omega) (by omega) (by show (if J = J then _ else _) = (if O = J then _ else _); rw [if_pos rfl, if_neg (by omega)]) h.2.1)
    clear hr hx
    go_wp2
    go_ret
    exact ⟨rfl, HB19.out⟩

end Go.Proofs.Qxb6617896a
