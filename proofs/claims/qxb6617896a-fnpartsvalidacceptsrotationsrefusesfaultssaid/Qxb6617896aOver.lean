import Derived.Test.Qxb6617896aBase
namespace Go.Proofs.Qxb6617896a
open Go.ChangeShapes Go.WideShapes Go.ChangeAt Go.RowKit

/-- A number of 0 .. L and a bool come back. -/
def RetIB (L : Int) (e : Ending) : Prop := ∃ (t : Int) (b : Bool), e = .returned (.tuple #[.int .i64 t, .bool b]) ∧ 0 ≤ t ∧ t ≤ L

/-- zzStringsOver. -/
theorem stringsOver_any (a : Option Addr) (n c : Nat) (S : Nat → ByteArray) (L : Int) (w : World) (h0 : 0 ≤ L) (h1 : L ≤ 1048576) (hs : Sl w a n c (fun i => .string (S i))) :
    Calls Try.prog 10 #[.slice a n c, .int .i64 L] w fun e w' => RetIB L e ∧ w' = w := by
  obtain ⟨hnc, hm, hc⟩ := hs
  unfold maxLen at hm
  have HC : Hid (0 < n → ∃ b off, a = some ⟨b, off, none⟩ ∧ b < w.heap.size ∧ ∀ i, i < n → w.cell? ⟨b, off + i, none⟩ = some (.string (S i))) := hc
  clear hc
  go_enter Try.func10, Try.ntmps10
  go_wp2
  go_loop [6, 7] (fun t i => ∃ (k : Nat) (x : Int), k ≤ n ∧ i = .int .i64 k ∧ t = .int .i64 x ∧ 0 ≤ x ∧ x ≤ L) (fun _ i => n - (intOf i).toNat)
  case atStart => exact ⟨0, 0, Nat.zero_le _, rfl, rfl, by omega, h0⟩
  case round =>
    obtain ⟨k, x, hk, rfl, rfl, hx0, hx1⟩ := hrel
    by_cases hlt : k < n
    · obtain ⟨b, off, rfl, hbl, hcell⟩ := HC.out (by omega)
      have hck := hcell k hlt
      clear hcell
      by_cases h16 : L - x < 16
      · go_wp2
        go_ret2
        exact ⟨⟨_, _, rfl, hx0, hx1⟩, rfl⟩
      · by_cases hsz : L - (x + 16) < ((S k).size : Int)
        · go_wp2
          go_ret2
          exact ⟨⟨_, _, rfl, by omega, by omega⟩, rfl⟩
        · go_wp2
          go_round
          case rel => exact ⟨k + 1, x + 16 + ((S k).size : Int), by omega, by go_num, rfl, by omega, by omega⟩
          case measure => simp [intOf]; omega
    · go_wp2
      go_ret2
      exact ⟨⟨_, _, rfl, hx0, hx1⟩, rfl⟩

/-- A bool comes back. -/
def RetAny (e : Ending) : Prop := ∃ b : Bool, e = .returned (.bool b)
theorem RetAny.mk (b : Bool) : RetAny (.returned (.bool b)) := ⟨b, rfl⟩

set_option maxHeartbeats 1000000 in
/-- zzBytes_FnPartsValidMatchesModel. -/
theorem bytes9_any (a0 : Option Addr) (n0 c0 : Nat) (S0 : Nat → ByteArray) (a1 : Option Addr) (n1 c1 : Nat) (S1 : Nat → ByteArray) (a2 : Option Addr) (n2 c2 : Nat) (a3 : Option Addr) (n3 c3 : Nat) (g : ByteArray) (w : World)
    (hs0 : Sl w a0 n0 c0 (fun i => .string (S0 i))) (hs1 : Sl w a1 n1 c1 (fun i => .string (S1 i))) :
    Calls Try.prog 9 #[.slice a0 n0 c0, .slice a1 n1 c1, .slice a2 n2 c2, .slice a3 n3 c3, .string g] w fun e w' => RetAny e ∧ w' = w := by
  obtain ⟨hnc0, hm0, hc0⟩ := hs0
  obtain ⟨hnc1, hm1, hc1⟩ := hs1
  unfold maxLen at hm0 hm1
  have HC0 : Hid (0 < n0 → ∃ b off, a0 = some ⟨b, off, none⟩ ∧ b < w.heap.size ∧ ∀ i, i < n0 → w.cell? ⟨b, off + i, none⟩ = some (.string (S0 i))) := hc0
  have HC1 : Hid (0 < n1 → ∃ b off, a1 = some ⟨b, off, none⟩ ∧ b < w.heap.size ∧ ∀ i, i < n1 → w.cell? ⟨b, off + i, none⟩ = some (.string (S1 i))) := hc1
  clear hc0 hc1
  by_cases hb0 : (1048576 : Int) < (n0 : Int)
  · go_enter Try.func9, Try.ntmps9
    go_wp2
    go_ret
    exact ⟨RetAny.mk _, rfl⟩
  go_enter Try.func9, Try.ntmps9
  go_wp2
  go_loop [11, 12] (fun t i => ∃ (k : Nat) (x : Int), k ≤ n0 ∧ i = .int .i64 k ∧ t = .int .i64 x ∧ 0 ≤ x ∧ x ≤ 1048576) (fun _ i => n0 - (intOf i).toNat)
  case atStart => exact ⟨0, (n0 : Int), Nat.zero_le _, rfl, rfl, by omega, by omega⟩
  case round =>
    obtain ⟨k, x, hk, rfl, rfl, hx0, hx1⟩ := hrel
    by_cases hlt : k < n0
    · obtain ⟨b, off, rfl, hbl, hcell⟩ := HC0.out (by omega)
      have hck := hcell k hlt
      clear hcell
      by_cases hsz : (1048576 : Int) < ((S0 k).size : Int)
      · go_wp2
        go_ret
        exact ⟨RetAny.mk _, rfl⟩
      · by_cases hsz2 : (1048576 : Int) < x + ((S0 k).size : Int)
        · go_wp2
          go_ret
          exact ⟨RetAny.mk _, rfl⟩
        · go_wp2
          go_round
          case rel => exact ⟨k + 1, x + ((S0 k).size : Int), by omega, by go_num, rfl, by omega, by omega⟩
          case measure => simp [intOf]; omega
    · by_cases hb1 : (1048576 : Int) < (n1 : Int)
      · go_wp2
        go_ret
        exact ⟨RetAny.mk _, rfl⟩
      by_cases hb2 : (1048576 : Int) < x + (n1 : Int)
      · go_wp2
        go_ret
        exact ⟨RetAny.mk _, rfl⟩
      go_wp2
      go_loop [11, 13] (fun t i => ∃ (k : Nat) (x : Int), k ≤ n1 ∧ i = .int .i64 k ∧ t = .int .i64 x ∧ 0 ≤ x ∧ x ≤ 1048576) (fun _ i => n1 - (intOf i).toNat)
      case atStart => exact ⟨0, x + (n1 : Int), Nat.zero_le _, rfl, rfl, by omega, by omega⟩
      case round =>
        clear hx0 hx1 hb2
        obtain ⟨k, x, hk, rfl, rfl, hx0, hx1⟩ := hrel
        by_cases hlt : k < n1
        · obtain ⟨b, off, rfl, hbl, hcell⟩ := HC1.out (by omega)
          have hck := hcell k hlt
          clear hcell
          by_cases hsz : (1048576 : Int) < ((S1 k).size : Int)
          · go_wp2
            go_ret
            exact ⟨RetAny.mk _, rfl⟩
          · by_cases hsz2 : (1048576 : Int) < x + ((S1 k).size : Int)
            · go_wp2
              go_ret
              exact ⟨RetAny.mk _, rfl⟩
            · go_wp2
              go_round
              case rel => exact ⟨k + 1, x + ((S1 k).size : Int), by omega, by go_num, rfl, by omega, by omega⟩
              case measure => simp [intOf]; omega
        · by_cases hb2 : (1048576 : Int) < (n2 : Int)
          · go_wp2
            go_ret
            exact ⟨RetAny.mk _, rfl⟩
          by_cases hb3 : (1048576 : Int) < (n3 : Int)
          · go_wp2
            all_goals (go_ret; exact ⟨RetAny.mk _, rfl⟩)
          by_cases hb4 : (1048576 : Int) < (g.size : Int)
          · go_wp2
            all_goals (go_ret; exact ⟨RetAny.mk _, rfl⟩)
          go_wp2
          all_goals (go_ret; exact ⟨RetAny.mk _, rfl⟩)

end Go.Proofs.Qxb6617896a
