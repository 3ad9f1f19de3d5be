import Derived.Test.Qxb6617896aBase
namespace Go.Proofs.Qxb6617896a
open Go.ChangeShapes Go.WideShapes Go.ChangeAt Go.RowKit

theorem Try.info3 : (Try.prog.info? 3).map (fun i => (i.zero, i.size, i.bytes)) = some (some (.int .i64 0), 1, 8) := by kernel_rfl

/-- A slice of n ints in a new block comes back. -/
def RetRow (w w' : World) (n : Nat) (Z : Nat → Int) (e : Ending) : Prop := ∃ B, e = .returned (.slice (some ⟨B, 0, none⟩) n n) ∧ w.heap.size ≤ B ∧ w'.rowIs B 3 n (fun i => .int .i64 (Z i))

/-- Keeper i's part in the rotation by s. -/
def rot (k : Nat) (s : Int) (i : Nat) : Int := ((i : Int) + s % (nParts k : Int)) % (nParts k : Int) + 1

theorem rotation_any (k : Nat) (s : Int) (w : World) (hk : k ≤ 1048576) (h0 : 0 ≤ s) (h1 : s ≤ 18446744073709551615) :
    Calls Try.prog 15 #[.int .i64 (k : Int), .int .u64 s] w fun e w' => RetRow w w' k (rot k s) e ∧ Below w.heap.size w w' := by
  have hmk := run_make_row' (P := Try.prog) 23 3 (.int .i64 0) 8 Try.underlying23 Try.info3 rfl .i64 .i64 k (by omega) (by omega)
  obtain ⟨N, hN⟩ : ∃ N, N = nParts k := ⟨_, rfl⟩
  have hnp := nParts_bd k
  have hn1 : 1 ≤ nParts k := by unfold nParts; split <;> omega
  rw [← hN] at hnp hn1
  have HN : Hid (N = nParts k) := hN
  clear hN
  have hNpos : (0 : Int) < (N : Int) := by omega
  obtain ⟨T, hT⟩ : ∃ T : Nat, s % (N : Int) = (T : Int) := ⟨(s % (N : Int)).toNat, by have := Int.emod_nonneg s (b := (N : Int)) (by omega); omega⟩
  have hTN : T < N := by have := Int.emod_lt_of_pos s hNpos; omega
  have HT : Hid (s % (N : Int) = (T : Int)) := hT
  go_enter Try.func15, Try.ntmps15
  go_wp2_with fail
  refine (partsOf_any k hk _).mono ?_
  rintro e w' ⟨rfl, rfl⟩
  rw [← HN.out]
  go_wp2
  clear hT
  go_loopw [8] (fun i wr => ∃ j : Nat, j ≤ k ∧ i = .int .i64 j ∧ Below w'.heap.size w' wr ∧ Hid (wr.rowIs w'.heap.size 3 k (fun p => .int .i64 (if p < j then rot k s p else 0)))) (fun i _ => k - (intOf i).toNat)
  case atStart => exact ⟨0, Nat.zero_le _, rfl, (Below.refl _ _).alloc (Nat.le_refl _) _, (World.rowIs_made _ _ _ _).congr fun p _ => by rw [if_neg (by omega)]⟩
  case round =>
    obtain ⟨j, hj, rfl, hbw, hrow⟩ := hrel
    have HB : Hid (Below w'.heap.size w' wr) := hbw
    clear hbw
    by_cases hlt : j < k
    · have hcq := hrow.out.cell (i := j) hlt
      have hfq := hrow.out.frozen j
      rw [if_neg (by omega)] at hcq
      obtain ⟨R, hR⟩ : ∃ R : Nat, ((j : Int) + (T : Int)) % (N : Int) = (R : Int) := ⟨(((j : Int) + (T : Int)) % (N : Int)).toNat, by have := Int.emod_nonneg ((j : Int) + (T : Int)) (b := (N : Int)) (by omega); omega⟩
      have hRN : R < N := by have := Int.emod_lt_of_pos ((j : Int) + (T : Int)) hNpos; omega
      have HRR : Hid (((j : Int) + (T : Int)) % (N : Int) = (R : Int)) := hR
      go_wp2
      go_roundw
      case rel =>
        refine ⟨j + 1, by omega, by go_num, HB.out.setCell (Nat.le_refl _) _, (hrow.out.set j _).congr fun p _ => ?_⟩
        show (if p = j then _ else Value.int .i64 (if p < j then rot k s p else 0)) = Value.int .i64 (if p < j + 1 then rot k s p else 0)
        by_cases hpj : p = j
        · subst hpj
          rw [if_pos rfl, if_pos (by omega)]
          unfold rot
          rw [← HN.out, HT.out, HRR.out]
        · rw [if_neg hpj]
          by_cases hpl : p < j
          · rw [if_pos hpl, if_pos (by omega)]
          · rw [if_neg hpl, if_neg (by omega)]
      case measure => simp [intOf]; omega
    · obtain rfl : j = k := by omega
      go_wp2
      go_ret
      exact ⟨⟨_, rfl, Nat.le_refl _, hrow.out.congr fun p hp => by rw [if_pos hp]⟩, HB.out⟩

/-- zzCloneInts, of a slice that is not nil. -/
theorem cloneInts_any (x : Addr) (n c : Nat) (Z : Nat → Int) (w : World) (hn : n ≤ 1048576) (hs : Sl w (some x) n c (fun i => .int .i64 (Z i))) :
    Calls Try.prog 16 #[.slice (some x) n c] w fun e w' => RetRow w w' n Z e ∧ Below w.heap.size w w' := by
  have q23 : ∀ (w : World) (a : Option Addr) (n c n' c' : Nat), (binOp .eql 23 (.slice a n c) (.slice none n' c')).run Try.prog w = .ok (.bool a.isNone) w := fun w a n c n' c' => Lib.run_eql_slice_nil w _ _ a n c n' c' Try.underlying23
  have hmk := run_make_row' (P := Try.prog) 23 3 (.int .i64 0) 8 Try.underlying23 Try.info3 rfl .i64 .i64 n (by omega) (by omega)
  obtain ⟨hnc, hm, hc⟩ := hs
  have HC : Hid (0 < n → ∃ b off, some x = some ⟨b, off, none⟩ ∧ b < w.heap.size ∧ ∀ i, i < n → w.cell? ⟨b, off + i, none⟩ = some (.int .i64 (Z i))) := hc
  clear hc
  unfold maxLen at hm
  go_enter Try.func16, Try.ntmps16
  go_wp2
  go_loopw [4] (fun i wr => ∃ j : Nat, j ≤ n ∧ i = .int .i64 j ∧ Below w.heap.size w wr ∧ Hid (wr.rowIs w.heap.size 3 n (fun p => .int .i64 (if p < j then Z p else 0)))) (fun i _ => n - (intOf i).toNat)
  case atStart => exact ⟨0, Nat.zero_le _, rfl, (Below.refl _ _).alloc (Nat.le_refl _) _, (World.rowIs_made _ _ _ _).congr fun p _ => by rw [if_neg (by omega)]⟩
  case round =>
    obtain ⟨j, hj, rfl, hbw, hrow⟩ := hrel
    by_cases hlt : j < n
    · obtain ⟨b, off, hx, hbl, hcell⟩ := HC.out (by omega)
      obtain rfl : x = ⟨b, off, none⟩ := by simpa using hx
      clear hx
      have hci : wr.cell? ⟨b, off + j, none⟩ = some (.int .i64 (Z j)) := (hbw.cell (p := ⟨b, off + j, none⟩) hbl).trans (hcell j hlt)
      have HB : Hid (Below w.heap.size w wr) := hbw
      clear hcell hbw
      have hcq := hrow.out.cell (i := j) hlt
      have hfq := hrow.out.frozen j
      rw [if_neg (by omega)] at hcq
      go_wp2
      go_roundw
      case rel =>
        refine ⟨j + 1, by omega, by go_num, HB.out.setCell (Nat.le_refl _) _, (hrow.out.set j _).congr fun p _ => ?_⟩
        show (if p = j then _ else Value.int .i64 (if p < j then Z p else 0)) = Value.int .i64 (if p < j + 1 then Z p else 0)
        by_cases hpj : p = j
        · subst hpj
          rw [if_pos rfl, if_pos (by omega)]
        · rw [if_neg hpj]
          by_cases hpl : p < j
          · rw [if_pos hpl, if_pos (by omega)]
          · rw [if_neg hpl, if_neg (by omega)]
      case measure => simp [intOf]; omega
    · obtain rfl : j = n := by omega
      have HB : Hid (Below w.heap.size w wr) := hbw
      clear hbw
      go_wp2
      go_ret
      exact ⟨⟨_, rfl, Nat.le_refl _, hrow.out.congr fun p hp => by rw [if_pos hp]⟩, HB.out⟩

end Go.Proofs.Qxb6617896a
