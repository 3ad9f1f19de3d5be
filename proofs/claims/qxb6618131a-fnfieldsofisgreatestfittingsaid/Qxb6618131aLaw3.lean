import Derived.Test.Qxb6618131aLaw4
import Derived.Test.Qxb6618131aGreatest
namespace Go.Proofs.Qxb6618131a
open Go.ChangeShapes Go.WideShapes Go.ChangeAt Go.RowKit

set_option maxHeartbeats 1000000 in
/-- zzSameInts of two slices that hold the same. -/
theorem sameInts_any (a : Option Addr) (n c : Nat) (a' : Option Addr) (c' : Nat) (Z : Nat → Int) (w : World) (hn : n ≤ 1048576) (hnil : a = none ↔ a' = none) (hs : Sl w a n c (fun i => .int .i64 (Z i))) (hs' : Sl w a' n c' (fun i => .int .i64 (Z i))) :
    Calls Try.prog 9 #[.slice a n c, .slice a' n c'] w fun e w' => e = .returned (.bool true) ∧ Below w.heap.size w w' := by
  have q25 : ∀ (w : World) (a : Option Addr) (n c n' c' : Nat), (binOp .eql 25 (.slice a n c) (.slice none n' c')).run Try.prog w = .ok (.bool a.isNone) w := fun w a n c n' c' => Lib.run_eql_slice_nil w _ _ a n c n' c' Try.underlying25
  have hq1 : (a.isNone != a'.isNone) = false := by
    cases a <;> cases a' <;> simp_all
  have hq1b : (a.isNone == a'.isNone) = true := by
    cases a <;> cases a' <;> simp_all
  have hq2 : ((n : Int) != (n : Int)) = false := by simp
  have HC : Hid (0 < n → ∃ b off, a = some ⟨b, off, none⟩ ∧ b < w.heap.size ∧ ∀ i, i < n → w.cell? ⟨b, off + i, none⟩ = some (.int .i64 (Z i))) := hs.2.2
  have HC' : Hid (0 < n → ∃ b off, a' = some ⟨b, off, none⟩ ∧ b < w.heap.size ∧ ∀ i, i < n → w.cell? ⟨b, off + i, none⟩ = some (.int .i64 (Z i))) := hs'.2.2
  clear hs hs' hnil
  go_enter Try.func9, Try.ntmps9
  go_wp2
  clear hq1
  go_loopw [5] (fun i wr => ∃ k : Nat, k ≤ n ∧ i = .int .i64 k ∧ Below w.heap.size w wr) (fun i _ => n - (intOf i).toNat)
  case atStart => exact ⟨0, Nat.zero_le _, rfl, Below.refl _ _⟩
  case round =>
    obtain ⟨k, hk, rfl, hbw⟩ := hrel
    have HB : Hid (Below w.heap.size w wr) := hbw
    clear hbw
    by_cases hlt : k < n
    · obtain ⟨b, off, rfl, hbl, hcell⟩ := HC.out (by omega)
      have hck : wr.cell? ⟨b, off + k, none⟩ = some (.int .i64 (Z k)) := (HB.out.cell (p := ⟨b, off + k, none⟩) hbl).trans (hcell k hlt)
      obtain ⟨b', off', rfl, hbl', hcell'⟩ := HC'.out (by omega)
      have hck' : wr.cell? ⟨b', off' + k, none⟩ = some (.int .i64 (Z k)) := (HB.out.cell (p := ⟨b', off' + k, none⟩) hbl').trans (hcell' k hlt)
      clear hcell hcell'
      have hlt' : (k : Int) < (n : Int) := by omega
      have hq3 : (Z k != Z k) = false := by simp
      go_wp2
      go_quiet (fail)
      go_wp2
      go_roundw
      case rel => exact ⟨k + 1, by omega, by go_num, below_drewN HB.out _⟩
      case measure => simp [intOf]; omega
    · go_wp2
      go_ret
      exact ⟨rfl, HB.out⟩

set_option maxRecDepth 100000 in
set_option maxHeartbeats 2000000 in
theorem law3_walk (a0 : Option Addr) (n0 c0 : Nat) (S0 : Nat → ByteArray) (a1 : Option Addr) (n1 c1 : Nat) (S1 : Nat → ByteArray) (a2 : Option Addr) (n2 c2 : Nat) (S2 : Nat → ByteArray) (w : World)
    (hs0 : Sl w a0 n0 c0 (fun i => .string (S0 i))) (hs1 : Sl w a1 n1 c1 (fun i => .string (S1 i))) (hs2 : Sl w a2 n2 c2 (fun i => .string (S2 i))) :
    Calls Try.prog 3 #[.slice a0 n0 c0, .slice a1 n1 c1, .slice a2 n2 c2] w fun e w' => e = .returned (.bool true) ∧ Below w.heap.size w w' := by
  have H0 : Hid (Sl w a0 n0 c0 (fun i => .string (S0 i))) := hs0
  have H1 : Hid (Sl w a1 n1 c1 (fun i => .string (S1 i))) := hs1
  have H2 : Hid (Sl w a2 n2 c2 (fun i => .string (S2 i))) := hs2
  clear hs0 hs1 hs2
  have q22 : ∀ (w : World) (a : Option Addr) (n c n' c' : Nat), (binOp .neq 22 (.slice a n c) (.slice none n' c')).run Try.prog w = .ok (.bool (!a.isNone)) w := fun w a n c n' c' => run_neq_slice_nil_any w _ _ a n c n' c' Try.underlying22
  go_enter Try.func3, Try.ntmps3
  go_wp2_with fail
  refine (bytes5_any a0 n0 c0 S0 a1 n1 c1 S1 a2 n2 c2 S2 _ H0.out H1.out H2.out).mono ?_
  rintro e w' ⟨⟨b, rfl⟩, rfl⟩
  cases b
  · go_wp2
    go_ret
    exact ⟨rfl, Below.refl _ _⟩
  by_cases t0 : (4096 : Int) < (n0 : Int)
  · go_wp2
    go_ret
    exact ⟨rfl, Below.refl _ _⟩
  by_cases t1 : (4096 : Int) < (n1 : Int)
  · go_wp2
    go_ret
    exact ⟨rfl, Below.refl _ _⟩
  by_cases t2 : (4096 : Int) < (n2 : Int)
  · go_wp2
    go_ret
    exact ⟨rfl, Below.refl _ _⟩
  have hm0 := run_make_row' (P := Try.prog) 22 9 (.string ⟨#[]⟩) 16 Try.underlying22 Try.info9 rfl .i64 .i64 n0 (by omega) (by omega)
  have hm1 := run_make_row' (P := Try.prog) 22 9 (.string ⟨#[]⟩) 16 Try.underlying22 Try.info9 rfl .i64 .i64 n1 (by omega) (by omega)
  have hm2 := run_make_row' (P := Try.prog) 22 9 (.string ⟨#[]⟩) 16 Try.underlying22 Try.info9 rfl .i64 .i64 n2 (by omega) (by omega)
  go_upto_if 34 with fail
  go_cut [0] (fun v wx => ∃ a c, v = .slice a n0 c ∧ Hid (Sl wx a n0 c (fun i => .string (S0 i))) ∧ Hid (Below w'.heap.size w' wx))
  case first =>
    cases a0 with
    | none =>
      go_wp2
      go_meet
      case rel => exact ⟨_, _, rfl, H0, Below.refl _ _⟩
    | some x =>
      go_wp2_with (refine wpList_copy_fresh rfl _ _ 22 22 rfl 9 Try.underlying22 Try.size9 _ n0 _ _ rfl rfl (fun i => .string (S0 i)) _ 9 (World.rowIs_made _ _ _ _) (H0.out.below (by go_grown)) (fun _ => rfl) w'.heap.size w' (by go_grown) (Nat.le_refl _) ?_; intro w2 hr2 hb2; have HR2 : Hid (w2.rowIs w'.heap.size 9 n0 (fun i => .string (S0 i))) := hr2; have HB2 : Hid (Below w'.heap.size w' w2) := hb2; clear hr2 hb2)
      go_meet
      case rel => exact ⟨_, _, rfl, Sl.of_row (by omega) HR2.out, HB2.out⟩
  case rest =>
    obtain ⟨wo, rfl⟩ : ∃ wo : World, wo = wc := ⟨_, rfl⟩
    obtain ⟨b0, e0, rfl, K0, HB0⟩ := hcut
    have H1' : Hid (Sl wo a1 n1 c1 (fun i => .string (S1 i))) := H1.out.below HB0.out
    have H2' : Hid (Sl wo a2 n2 c2 (fun i => .string (S2 i))) := H2.out.below HB0.out
    clear H0 H1 H2 hm0
    go_upto_if 43 with fail
    go_cut [1] (fun v wx => ∃ a c, v = .slice a n1 c ∧ Hid (Sl wx a n1 c (fun i => .string (S1 i))) ∧ Hid (Below wo.heap.size wo wx))
    case first =>
      cases a1 with
      | none =>
        go_wp2
        go_meet
        case rel => exact ⟨_, _, rfl, H1', Below.refl _ _⟩
      | some x =>
        go_wp2_with (refine wpList_copy_fresh rfl _ _ 22 22 rfl 9 Try.underlying22 Try.size9 _ n1 _ _ rfl rfl (fun i => .string (S1 i)) _ 9 (World.rowIs_made _ _ _ _) (H1'.out.below (by go_grown)) (fun _ => rfl) wo.heap.size wo (by go_grown) (Nat.le_refl _) ?_; intro w2 hr2 hb2; have HR2 : Hid (w2.rowIs wo.heap.size 9 n1 (fun i => .string (S1 i))) := hr2; have HB2 : Hid (Below wo.heap.size wo w2) := hb2; clear hr2 hb2)
        go_meet
        case rel => exact ⟨_, _, rfl, Sl.of_row (by omega) HR2.out, HB2.out⟩
    case rest =>
      obtain ⟨wp, rfl⟩ : ∃ wp : World, wp = wc := ⟨_, rfl⟩
      obtain ⟨b1, e1, rfl, K1, HB1⟩ := hcut
      have H2 : Hid (Sl wp a2 n2 c2 (fun i => .string (S2 i))) := H2'.out.below HB1.out
      have K0' : Hid (Sl wp b0 n0 e0 (fun i => .string (S0 i))) := K0.out.below HB1.out
      have HBp : Hid (Below w'.heap.size w' wp) := HB0.out.trans (HB1.out.mono HB0.out.size)
      clear H1' H2' hm1 K0 HB0 HB1
      go_upto_if 52 with fail
      go_cut [2] (fun v wx => ∃ a c, v = .slice a n2 c ∧ Hid (Sl wx a n2 c (fun i => .string (S2 i))) ∧ Hid (Below wp.heap.size wp wx))
      case first =>
        cases a2 with
        | none =>
          go_wp2
          go_meet
          case rel => exact ⟨_, _, rfl, H2, Below.refl _ _⟩
        | some x =>
          go_wp2_with (refine wpList_copy_fresh rfl _ _ 22 22 rfl 9 Try.underlying22 Try.size9 _ n2 _ _ rfl rfl (fun i => .string (S2 i)) _ 9 (World.rowIs_made _ _ _ _) (H2.out.below (by go_grown)) (fun _ => rfl) wp.heap.size wp (by go_grown) (Nat.le_refl _) ?_; intro w2 hr2 hb2; have HR2 : Hid (w2.rowIs wp.heap.size 9 n2 (fun i => .string (S2 i))) := hr2; have HB2 : Hid (Below wp.heap.size wp w2) := hb2; clear hr2 hb2)
          go_meet
          case rel => exact ⟨_, _, rfl, Sl.of_row (by omega) HR2.out, HB2.out⟩
      case rest =>
        obtain ⟨wq, rfl⟩ : ∃ wq : World, wq = wc := ⟨_, rfl⟩
        obtain ⟨b2, e2, rfl, K2, HB2⟩ := hcut
        have K0 : Hid (Sl wq b0 n0 e0 (fun i => .string (S0 i))) := K0'.out.below HB2.out
        have K1' : Hid (Sl wq b1 n1 e1 (fun i => .string (S1 i))) := K1.out.below HB2.out
        have HBq : Hid (Below w'.heap.size w' wq) := HBp.out.trans (HB2.out.mono HBp.out.size)
        clear H2 hm2 K0' K1 HBp HB2
        go_wp2_with fail
        refine (addBytes_any 0 b0 n0 e0 S0 _ (by omega) (by omega) K0.out).mono ?_
        rintro e wy ⟨⟨u, rfl, hu0, hu1⟩, rfl⟩
        go_wp2_with fail
        refine (addBytes_any u b1 n1 e1 S1 _ (by omega) (by omega) K1'.out).mono ?_
        rintro e wy ⟨⟨u2, rfl, hv0, hv1⟩, rfl⟩
        go_wp2_with fail
        refine (addBytes_any u2 b2 n2 e2 S2 _ (by omega) (by omega) K2.out).mono ?_
        rintro e wy ⟨⟨u3, rfl, hx0, hx1⟩, rfl⟩
        by_cases hneg : u3 < 0
        · go_wp2
          go_ret
          exact ⟨rfl, HBq.out⟩
        clear hu0 hu1 hv0 hv1 hx0 hx1
        obtain ⟨r, hr⟩ : ∃ r, fo S0 n0 S1 n1 (optB S2 n2) = r := ⟨_, rfl⟩
        have hrl : r.1.length ≤ 1048576 := by
          rw [← hr]
          unfold fo
          cases hg : greedy S0 n0 S1 (optB S2 n2) n1 with
          | none => simp
          | some p => have := (greedy_len hg).1; simp; omega
        have HR : Hid (fo S0 n0 S1 n1 (optB S2 n2) = r) := hr
        clear hr
        go_wp2_with fail
        refine (greatest_any b0 n0 e0 S0 b1 n1 e1 S1 b2 n2 e2 S2 _ (by omega) (by omega) K0.out K1'.out K2.out).mono ?_
        rw [HR.out]
        rintro e w3 ⟨⟨af, cf, rfl, hsf, hnf⟩, hb3⟩
        have HSF : Hid (Sl w3 af r.1.length cf (fun i => .int .i64 (r.1.getD i 0))) := hsf
        have HNF : Hid (af = none ↔ r.1 = []) := hnf
        have HB3 : Hid (Below w'.heap.size w' w3) := HBq.out.trans (hb3.mono HBq.out.size)
        have L0 : Hid (Sl w3 b0 n0 e0 (fun i => .string (S0 i))) := K0.out.below hb3
        have L1 : Hid (Sl w3 b1 n1 e1 (fun i => .string (S1 i))) := K1'.out.below hb3
        have L2 : Hid (Sl w3 b2 n2 e2 (fun i => .string (S2 i))) := K2.out.below hb3
        clear hsf hnf hb3 K0 K1' K2 HBq
        go_wp2_with fail
        refine (zzFieldsOf_any b0 n0 e0 S0 b1 n1 e1 S1 b2 n2 e2 S2 _ (by omega) (by omega) L0.out L1.out L2.out).mono ?_
        rw [HR.out]
        rintro e w4 ⟨⟨ag, cg, rfl, hsg, hng⟩, hb4⟩
        have HSG : Hid (Sl w4 ag r.1.length cg (fun i => .int .i64 (r.1.getD i 0))) := hsg
        have HNG : Hid (ag = none ↔ r.1 = []) := hng
        have HSF4 : Hid (Sl w4 af r.1.length cf (fun i => .int .i64 (r.1.getD i 0))) := HSF.out.below hb4
        have HB4 : Hid (Below w'.heap.size w' w4) := HB3.out.trans (hb4.mono HB3.out.size)
        clear hsg hng hb4 L0 L1 L2 HB3 HSF
        have hq : (r.2 == r.2) = true := by simp
        go_wp2_with fail
        refine (sameInts_any ag r.1.length cg af cf (fun i => r.1.getD i 0) _ hrl (HNG.out.trans HNF.out.symm) HSG.out HSF4.out).mono ?_
        rintro e w5 ⟨rfl, hb5⟩
        have HB5 : Hid (Below w'.heap.size w' w5) := HB4.out.trans (hb5.mono HB4.out.size)
        clear hb5
        go_wp2
        go_ret
        exact ⟨rfl, HB5.out⟩

end Go.Proofs.Qxb6618131a
