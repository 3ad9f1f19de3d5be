import Derived.Test.Qxb6618131aBase
namespace Go.Proofs.Qxb6618131a
open Go.ChangeShapes Go.WideShapes Go.ChangeAt Go.RowKit

/-- A bool comes back. -/
def RetAny (e : Ending) : Prop := ∃ b : Bool, e = .returned (.bool b)
theorem RetAny.mk (b : Bool) : RetAny (.returned (.bool b)) := ⟨b, rfl⟩

set_option maxHeartbeats 1000000 in
theorem bytes10_any (a0 : Option Addr) (n0 c0 : Nat) (S0 : Nat → ByteArray) (a1 : Option Addr) (n1 c1 : Nat) (S1 : Nat → ByteArray) (a2 : Option Addr) (n2 c2 : Nat) (w : World) (hs0 : Sl w a0 n0 c0 (fun i => .string (S0 i))) (hs1 : Sl w a1 n1 c1 (fun i => .string (S1 i))) :
    Calls Try.prog 10 #[.slice a0 n0 c0, .slice a1 n1 c1, .slice a2 n2 c2] w fun e w' => RetAny e ∧ w' = w := by
  obtain ⟨hnc0, hm0, hc0⟩ := hs0
  unfold maxLen at hm0
  have HC0 : Hid (0 < n0 → ∃ b off, a0 = some ⟨b, off, none⟩ ∧ b < w.heap.size ∧ ∀ i, i < n0 → w.cell? ⟨b, off + i, none⟩ = some (.string (S0 i))) := hc0
  clear hc0 hm0 hnc0
  obtain ⟨hnc1, hm1, hc1⟩ := hs1
  unfold maxLen at hm1
  have HC1 : Hid (0 < n1 → ∃ b off, a1 = some ⟨b, off, none⟩ ∧ b < w.heap.size ∧ ∀ i, i < n1 → w.cell? ⟨b, off + i, none⟩ = some (.string (S1 i))) := hc1
  clear hc1 hm1 hnc1
  by_cases hb0 : (1048576 : Int) < (n0 : Int)
  · go_enter Try.func10, Try.ntmps10
    go_wp2
    go_ret
    exact ⟨RetAny.mk _, rfl⟩
  go_enter Try.func10, Try.ntmps10
  go_wp2
  go_loop [7, 8] (fun t i => ∃ (k : Nat) (x : Int), k ≤ n0 ∧ i = .int .i64 k ∧ t = .int .i64 x ∧ 0 ≤ x ∧ x ≤ 1048576) (fun _ i => n0 - (intOf i).toNat)
  case atStart => exact ⟨0, (n0 : Int), Nat.zero_le _, rfl, rfl, by omega, by omega⟩
  case round =>
    obtain ⟨k, x0, hk, rfl, rfl, hx0, hx1⟩ := hrel
    by_cases hlt : k < n0
    · obtain ⟨b, off, rfl, hbl, hcell⟩ := HC0.out (by omega)
      have hck := hcell k hlt
      clear hcell
      by_cases hsz : (1048576 : Int) < ((S0 k).size : Int)
      · go_wp2
        go_ret
        exact ⟨RetAny.mk _, rfl⟩
      · by_cases hsz2 : (1048576 : Int) < x0 + ((S0 k).size : Int)
        · go_wp2
          go_ret
          exact ⟨RetAny.mk _, rfl⟩
        · go_wp2
          go_round
          case rel => exact ⟨k + 1, x0 + ((S0 k).size : Int), by omega, by go_num, rfl, by omega, by omega⟩
          case measure => simp [intOf]; omega
    · skip
      by_cases hb1 : (1048576 : Int) < (n1 : Int)
      · go_wp2
        go_ret
        exact ⟨RetAny.mk _, rfl⟩
      by_cases hd1 : (1048576 : Int) < x0 + (n1 : Int)
      · go_wp2
        go_ret
        exact ⟨RetAny.mk _, rfl⟩
      go_wp2
      go_loop [7, 9] (fun t i => ∃ (k : Nat) (x : Int), k ≤ n1 ∧ i = .int .i64 k ∧ t = .int .i64 x ∧ 0 ≤ x ∧ x ≤ 1048576) (fun _ i => n1 - (intOf i).toNat)
      case atStart => exact ⟨0, x0 + (n1 : Int), Nat.zero_le _, rfl, rfl, by omega, by omega⟩
      case round =>
        obtain ⟨k, x1, hk, rfl, rfl, hx0, hx1⟩ := hrel
        by_cases hlt : k < n1
        · obtain ⟨b, off, rfl, hbl, hcell⟩ := HC1.out (by omega)
          have hck := hcell k hlt
          clear hcell
          by_cases hsz : (1048576 : Int) < ((S1 k).size : Int)
          · go_wp2
            go_ret
            exact ⟨RetAny.mk _, rfl⟩
          · by_cases hsz2 : (1048576 : Int) < x1 + ((S1 k).size : Int)
            · go_wp2
              go_ret
              exact ⟨RetAny.mk _, rfl⟩
            · go_wp2
              go_round
              case rel => exact ⟨k + 1, x1 + ((S1 k).size : Int), by omega, by go_num, rfl, by omega, by omega⟩
              case measure => simp [intOf]; omega
        · skip
          by_cases hb2 : (1048576 : Int) < (n2 : Int)
          · go_wp2
            all_goals (go_ret; exact ⟨RetAny.mk _, rfl⟩)
          go_wp2
          all_goals (go_ret; exact ⟨RetAny.mk _, rfl⟩)

set_option maxHeartbeats 1000000 in
theorem bytes5_any (a0 : Option Addr) (n0 c0 : Nat) (S0 : Nat → ByteArray) (a1 : Option Addr) (n1 c1 : Nat) (S1 : Nat → ByteArray) (a2 : Option Addr) (n2 c2 : Nat) (S2 : Nat → ByteArray) (w : World) (hs0 : Sl w a0 n0 c0 (fun i => .string (S0 i))) (hs1 : Sl w a1 n1 c1 (fun i => .string (S1 i))) (hs2 : Sl w a2 n2 c2 (fun i => .string (S2 i))) :
    Calls Try.prog 5 #[.slice a0 n0 c0, .slice a1 n1 c1, .slice a2 n2 c2] w fun e w' => RetAny e ∧ w' = w := by
  obtain ⟨hnc0, hm0, hc0⟩ := hs0
  unfold maxLen at hm0
  have HC0 : Hid (0 < n0 → ∃ b off, a0 = some ⟨b, off, none⟩ ∧ b < w.heap.size ∧ ∀ i, i < n0 → w.cell? ⟨b, off + i, none⟩ = some (.string (S0 i))) := hc0
  clear hc0 hm0 hnc0
  obtain ⟨hnc1, hm1, hc1⟩ := hs1
  unfold maxLen at hm1
  have HC1 : Hid (0 < n1 → ∃ b off, a1 = some ⟨b, off, none⟩ ∧ b < w.heap.size ∧ ∀ i, i < n1 → w.cell? ⟨b, off + i, none⟩ = some (.string (S1 i))) := hc1
  clear hc1 hm1 hnc1
  obtain ⟨hnc2, hm2, hc2⟩ := hs2
  unfold maxLen at hm2
  have HC2 : Hid (0 < n2 → ∃ b off, a2 = some ⟨b, off, none⟩ ∧ b < w.heap.size ∧ ∀ i, i < n2 → w.cell? ⟨b, off + i, none⟩ = some (.string (S2 i))) := hc2
  clear hc2 hm2 hnc2
  by_cases hb0 : (1048576 : Int) < (n0 : Int)
  · go_enter Try.func5, Try.ntmps5
    go_wp2
    go_ret
    exact ⟨RetAny.mk _, rfl⟩
  go_enter Try.func5, Try.ntmps5
  go_wp2
  go_loop [7, 8] (fun t i => ∃ (k : Nat) (x : Int), k ≤ n0 ∧ i = .int .i64 k ∧ t = .int .i64 x ∧ 0 ≤ x ∧ x ≤ 1048576) (fun _ i => n0 - (intOf i).toNat)
  case atStart => exact ⟨0, (n0 : Int), Nat.zero_le _, rfl, rfl, by omega, by omega⟩
  case round =>
    obtain ⟨k, x0, hk, rfl, rfl, hx0, hx1⟩ := hrel
    by_cases hlt : k < n0
    · obtain ⟨b, off, rfl, hbl, hcell⟩ := HC0.out (by omega)
      have hck := hcell k hlt
      clear hcell
      by_cases hsz : (1048576 : Int) < ((S0 k).size : Int)
      · go_wp2
        go_ret
        exact ⟨RetAny.mk _, rfl⟩
      · by_cases hsz2 : (1048576 : Int) < x0 + ((S0 k).size : Int)
        · go_wp2
          go_ret
          exact ⟨RetAny.mk _, rfl⟩
        · go_wp2
          go_round
          case rel => exact ⟨k + 1, x0 + ((S0 k).size : Int), by omega, by go_num, rfl, by omega, by omega⟩
          case measure => simp [intOf]; omega
    · skip
      by_cases hb1 : (1048576 : Int) < (n1 : Int)
      · go_wp2
        go_ret
        exact ⟨RetAny.mk _, rfl⟩
      by_cases hd1 : (1048576 : Int) < x0 + (n1 : Int)
      · go_wp2
        go_ret
        exact ⟨RetAny.mk _, rfl⟩
      go_wp2
      go_loop [7, 9] (fun t i => ∃ (k : Nat) (x : Int), k ≤ n1 ∧ i = .int .i64 k ∧ t = .int .i64 x ∧ 0 ≤ x ∧ x ≤ 1048576) (fun _ i => n1 - (intOf i).toNat)
      case atStart => exact ⟨0, x0 + (n1 : Int), Nat.zero_le _, rfl, rfl, by omega, by omega⟩
      case round =>
        obtain ⟨k, x1, hk, rfl, rfl, hx0, hx1⟩ := hrel
        by_cases hlt : k < n1
        · obtain ⟨b, off, rfl, hbl, hcell⟩ := HC1.out (by omega)
          have hck := hcell k hlt
          clear hcell
          by_cases hsz : (1048576 : Int) < ((S1 k).size : Int)
          · go_wp2
            go_ret
            exact ⟨RetAny.mk _, rfl⟩
          · by_cases hsz2 : (1048576 : Int) < x1 + ((S1 k).size : Int)
            · go_wp2
              go_ret
              exact ⟨RetAny.mk _, rfl⟩
            · go_wp2
              go_round
              case rel => exact ⟨k + 1, x1 + ((S1 k).size : Int), by omega, by go_num, rfl, by omega, by omega⟩
              case measure => simp [intOf]; omega
        · skip
          by_cases hb2 : (1048576 : Int) < (n2 : Int)
          · go_wp2
            go_ret
            exact ⟨RetAny.mk _, rfl⟩
          by_cases hd2 : (1048576 : Int) < x1 + (n2 : Int)
          · go_wp2
            go_ret
            exact ⟨RetAny.mk _, rfl⟩
          go_wp2
          go_loop [7, 10] (fun t i => ∃ (k : Nat) (x : Int), k ≤ n2 ∧ i = .int .i64 k ∧ t = .int .i64 x ∧ 0 ≤ x ∧ x ≤ 1048576) (fun _ i => n2 - (intOf i).toNat)
          case atStart => exact ⟨0, x1 + (n2 : Int), Nat.zero_le _, rfl, rfl, by omega, by omega⟩
          case round =>
            obtain ⟨k, x2, hk, rfl, rfl, hx0, hx1⟩ := hrel
            by_cases hlt : k < n2
            · obtain ⟨b, off, rfl, hbl, hcell⟩ := HC2.out (by omega)
              have hck := hcell k hlt
              clear hcell
              by_cases hsz : (1048576 : Int) < ((S2 k).size : Int)
              · go_wp2
                go_ret
                exact ⟨RetAny.mk _, rfl⟩
              · by_cases hsz2 : (1048576 : Int) < x2 + ((S2 k).size : Int)
                · go_wp2
                  go_ret
                  exact ⟨RetAny.mk _, rfl⟩
                · go_wp2
                  go_round
                  case rel => exact ⟨k + 1, x2 + ((S2 k).size : Int), by omega, by go_num, rfl, by omega, by omega⟩
                  case measure => simp [intOf]; omega
            · skip
              go_wp2
              all_goals (go_ret; exact ⟨RetAny.mk _, rfl⟩)

end Go.Proofs.Qxb6618131a
