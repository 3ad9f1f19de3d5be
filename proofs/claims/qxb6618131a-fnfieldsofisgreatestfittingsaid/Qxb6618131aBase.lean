import Derived.Test.Qxb6618131aRows
import Derived.Test.Qxb6618131aPlain
import Derived.WalkKit
import Derived.ProofKit
import Derived.Handy
import Derived.WalkSpells
import Derived.WalkLawsBesides
import Derived.Deep.OwnRows
import Derived.BigQuiet
import Derived.Deep.QuietTactic
namespace Go.Proofs.Qxb6618131a
open Go.ChangeShapes Go.WideShapes Go.ChangeAt Go.RowKit

/-- What the walks are told of a slice whose elements are one cell each: its length and capacity fit an int; where it has elements its first 'n' cells, in a block that lies in the world, hold 'V 0', 'V 1', ... -/
def Sl (w : World) (a : Option Addr) (n c : Nat) (V : Nat → Value) : Prop :=
  n ≤ c ∧ c ≤ maxLen ∧ (0 < n → ∃ b off, a = some ⟨b, off, none⟩ ∧ b < w.heap.size ∧ ∀ i, i < n → w.cell? ⟨b, off + i, none⟩ = some (V i))

theorem Sl.below {w w' : World} {a : Option Addr} {n c : Nat} {V : Nat → Value} (h : Sl w a n c V) (hb : Below w.heap.size w w') : Sl w' a n c V := by
  refine ⟨h.1, h.2.1, fun hn => ?_⟩
  obtain ⟨b, off, ha, hlt, hc⟩ := h.2.2 hn
  exact ⟨b, off, ha, Nat.lt_of_lt_of_le hlt hb.size, fun i hi => (hb.cell (p := ⟨b, off + i, none⟩) hlt).trans (hc i hi)⟩

theorem Sl.nil_len {w : World} {n c : Nat} {V : Nat → Value} (h : Sl w none n c V) : n = 0 := by
  rcases Nat.eq_zero_or_pos n with h0 | h0
  · exact h0
  · obtain ⟨b, off, ha, _⟩ := h.2.2 h0
    cases ha

/-- A bool comes back that says whether p holds. -/
def RetB (p : Prop) (e : Ending) : Prop := ∃ r : Bool, e = .returned (.bool r) ∧ (r = true ↔ p)
theorem RetB.yes {p : Prop} (h : p) : RetB p (.returned (.bool true)) := ⟨true, rfl, fun _ => h, fun _ => rfl⟩
theorem RetB.no {p : Prop} (h : ¬ p) : RetB p (.returned (.bool false)) := ⟨false, rfl, fun h' => (by cases h'), fun h' => absurd h' h⟩
theorem RetB.of {p : Prop} {b : Bool} (h : b = true ↔ p) : RetB p (.returned (.bool b)) := ⟨b, rfl, h⟩
theorem RetB.cases {p : Prop} {e : Ending} (h : RetB p e) : (p ∧ e = .returned (.bool true)) ∨ (¬ p ∧ e = .returned (.bool false)) := by
  obtain ⟨r, rfl, hr⟩ := h
  cases r
  · exact .inr ⟨fun hp => (by cases hr.2 hp), rfl⟩
  · exact .inl ⟨hr.1 rfl, rfl⟩

/-- s stands among the first n. -/
def AmongS (S : Nat → ByteArray) (n : Nat) (s : ByteArray) : Prop := ∃ i, i < n ∧ S i = s

theorem beqS_true {a b : ByteArray} (h : a = b) : (a.toList == b.toList) = true := by rw [h]; simp
theorem beqS_false {a b : ByteArray} (h : a ≠ b) : (a.toList == b.toList) = false := by
  rw [beq_eq_false_iff_ne]
  intro e
  rw [ByteArray.toList_eq, ByteArray.toList_eq] at e
  apply h
  cases a
  cases b
  simpa using e

/-- The same as a Bool. -/
def optB (S : Nat → ByteArray) (n : Nat) (s : ByteArray) : Bool := (List.range n).any fun i => decide (S i = s)
theorem optB_iff {S : Nat → ByteArray} {n : Nat} {s : ByteArray} : optB S n s = true ↔ AmongS S n s := by
  unfold optB AmongS
  simp

/-- zzIn. -/
theorem in_any (a : Option Addr) (n c : Nat) (S : Nat → ByteArray) (s : ByteArray) (w : World) (hs : Sl w a n c (fun i => .string (S i))) :
    Calls Try.prog 11 #[.slice a n c, .string s] w fun e w' => w' = w ∧ RetB (AmongS S n s) e := by
  obtain ⟨hnc, hm, hc⟩ := hs
  unfold maxLen at hm
  have HC : Hid (0 < n → ∃ b off, a = some ⟨b, off, none⟩ ∧ b < w.heap.size ∧ ∀ i, i < n → w.cell? ⟨b, off + i, none⟩ = some (.string (S i))) := hc
  clear hc
  go_enter Try.func11, Try.ntmps11
  go_wp2
  go_loop [5] (fun i => ∃ k : Nat, k ≤ n ∧ i = .int .i64 k ∧ Hid (∀ j, j < k → S j ≠ s)) (fun i => n - (intOf i).toNat)
  case atStart => exact ⟨0, Nat.zero_le _, rfl, fun j hj => absurd hj (by omega)⟩
  case round =>
    obtain ⟨k, hk, rfl, hno⟩ := hrel
    by_cases hlt : k < n
    · obtain ⟨b, off, rfl, hbl, hcell⟩ := HC.out (by omega)
      have hck := hcell k hlt
      clear hcell
      by_cases he : S k = s
      · have hb := beqS_true he
        have HE : Hid (S k = s) := he
        clear he
        go_wp2
        go_ret
        exact ⟨rfl, RetB.yes ⟨k, hlt, HE.out⟩⟩
      · have hb := beqS_false he
        have HE : Hid (¬ S k = s) := he
        clear he
        go_wp2
        go_round
        case rel =>
          refine ⟨k + 1, by omega, by go_num, fun j hj => ?_⟩
          by_cases hjk : j = k
          · subst hjk; exact HE.out
          · exact hno.out j (by omega)
        case measure => simp [intOf]; omega
    · go_wp2
      go_ret
      exact ⟨rfl, RetB.no fun ⟨i, hi, hv⟩ => absurd hv (hno.out i (by omega))⟩

/-- slices.Index over strings. -/
theorem index_any (a : Option Addr) (n c : Nat) (S : Nat → ByteArray) (s : ByteArray) (w : World) (hs : Sl w a n c (fun i => .string (S i))) :
    Calls Try.prog 15 #[.slice a n c, .string s] w fun e w' => w' = w ∧ ∃ r : Int, e = .returned (.int .i64 r) ∧ (0 ≤ r ↔ AmongS S n s) := by
  obtain ⟨hnc, hm, hc⟩ := hs
  unfold maxLen at hm
  have HC : Hid (0 < n → ∃ b off, a = some ⟨b, off, none⟩ ∧ b < w.heap.size ∧ ∀ i, i < n → w.cell? ⟨b, off + i, none⟩ = some (.string (S i))) := hc
  clear hc
  go_enter Try.func15, Try.ntmps15
  go_wp2
  go_loop [8] (fun i => ∃ k : Nat, k ≤ n ∧ i = .int .i64 k ∧ Hid (∀ j, j < k → S j ≠ s)) (fun i => n - (intOf i).toNat)
  case atStart => exact ⟨0, Nat.zero_le _, rfl, fun j hj => absurd hj (by omega)⟩
  case round =>
    obtain ⟨k, hk, rfl, hno⟩ := hrel
    by_cases hlt : k < n
    · obtain ⟨b, off, rfl, hbl, hcell⟩ := HC.out (by omega)
      have hck := hcell k hlt
      clear hcell
      by_cases he : s = S k
      · have hb := beqS_true he
        have HE : Hid (s = S k) := he
        clear he
        go_wp2
        go_ret
        exact ⟨rfl, _, rfl, fun _ => ⟨k, hlt, HE.out.symm⟩, fun _ => by omega⟩
      · have hb := beqS_false he
        have HE : Hid (¬ s = S k) := he
        clear he
        go_wp2
        go_round
        case rel =>
          refine ⟨k + 1, by omega, by go_num, fun j hj => ?_⟩
          by_cases hjk : j = k
          · subst hjk; exact fun h => HE.out h.symm
          · exact hno.out j (by omega)
        case measure => simp [intOf]; omega
    · go_wp2
      go_ret
      exact ⟨rfl, _, rfl, fun h => absurd h (by omega), fun ⟨i, hi, hv⟩ => absurd hv (hno.out i (by omega))⟩

/-- slices.Contains over strings. -/
theorem contains_any (a : Option Addr) (n c : Nat) (S : Nat → ByteArray) (s : ByteArray) (w : World) (hs : Sl w a n c (fun i => .string (S i))) :
    Calls Try.prog 14 #[.slice a n c, .string s] w fun e w' => w' = w ∧ RetB (AmongS S n s) e := by
  go_enter Try.func14, Try.ntmps14
  go_wp2_with fail
  refine (index_any a n c S s _ hs).mono ?_
  rintro e w' ⟨rfl, r, rfl, hr⟩
  have HR : Hid (0 ≤ r ↔ AmongS S n s) := hr
  clear hr
  go_wp2
  go_ret
  exact ⟨rfl, RetB.of (by rw [← HR.out]; simp)⟩

/-- A number of -1 .. 1<<20 comes back. -/
def RetN (e : Ending) : Prop := ∃ t : Int, e = .returned (.int .i64 t) ∧ -1 ≤ t ∧ t ≤ 1048576

/-- zzAddBytes. -/
theorem addBytes_any (u : Int) (a : Option Addr) (n c : Nat) (S : Nat → ByteArray) (w : World) (h0 : -1 ≤ u) (h1 : u ≤ 1048576) (hs : Sl w a n c (fun i => .string (S i))) :
    Calls Try.prog 6 #[.int .i64 u, .slice a n c] w fun e w' => RetN e ∧ w' = w := by
  obtain ⟨hnc, hm, hc⟩ := hs
  unfold maxLen at hm
  have HC : Hid (0 < n → ∃ b off, a = some ⟨b, off, none⟩ ∧ b < w.heap.size ∧ ∀ i, i < n → w.cell? ⟨b, off + i, none⟩ = some (.string (S i))) := hc
  clear hc
  by_cases hu : u < 0
  · go_enter Try.func6, Try.ntmps6
    go_wp2
    go_ret
    exact ⟨⟨_, rfl, by omega, by omega⟩, rfl⟩
  by_cases hq : (1048576 - u) / 8 < (n : Int)
  · go_enter Try.func6, Try.ntmps6
    go_wp2
    go_ret
    exact ⟨⟨_, rfl, by omega, by omega⟩, rfl⟩
  go_enter Try.func6, Try.ntmps6
  go_wp2
  go_loop [0, 5] (fun t i => ∃ (k : Nat) (x : Int), k ≤ n ∧ i = .int .i64 k ∧ t = .int .i64 x ∧ 0 ≤ x ∧ x ≤ 1048576) (fun _ i => n - (intOf i).toNat)
  case atStart => exact ⟨0, _, Nat.zero_le _, rfl, rfl, by omega, by omega⟩
  case round =>
    obtain ⟨k, x, hk, rfl, rfl, hx0, hx1⟩ := hrel
    by_cases hlt : k < n
    · obtain ⟨b, off, rfl, hbl, hcell⟩ := HC.out (by omega)
      have hck := hcell k hlt
      clear hcell
      by_cases hsz : 1048576 - x < ((S k).size : Int)
      · go_wp2
        go_ret
        exact ⟨⟨_, rfl, by omega, by omega⟩, rfl⟩
      · go_wp2
        go_round
        case rel => exact ⟨k + 1, x + ((S k).size : Int), by omega, by go_num, rfl, by omega, by omega⟩
        case measure => simp [intOf]; omega
    · go_wp2
      go_ret
      exact ⟨⟨_, rfl, by omega, by omega⟩, rfl⟩

end Go.Proofs.Qxb6618131a
