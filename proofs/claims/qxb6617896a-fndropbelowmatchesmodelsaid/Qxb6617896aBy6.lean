import Derived.Test.Qxb6617896aBy
namespace Go.Proofs.Qxb6617896a
open Go.ChangeShapes Go.WideShapes Go.ChangeAt Go.RowKit

/-- zzBytes_FnRecordMatchesModel. -/
theorem bytes26 (a : Option Addr) (n c : Nat) (T : Nat → Stp) (A : Nat → Option Addr) (K : Nat → Nat) (w : World) (h : StepsAt w a n c T A K) :
    Calls Try.prog 26 #[.slice a n c] w fun e w' => RetSome e ∧ w' = w := by
  obtain ⟨hnc, hcm, hok, hsl, hc⟩ := h
  have HOK := hide hok
  have HSL := hide hsl
  have HC := hide hc
  clear hok hsl hc
  unfold maxLen at hcm
  go_enter Try.func26, Try.ntmps26
  by_cases t0 : (1048576 : Int) < (n : Int)
  · go_wp2
    go_ret
    exact ⟨.inl rfl, rfl⟩
  go_wp2
  go_loop [3, 4] (fun t i => ∃ (k : Nat) (x : Int), k ≤ n ∧ i = .int .i64 k ∧ t = .int .i64 x ∧ 0 ≤ x ∧ x ≤ 1048576) (fun _ i => n - (intOf i).toNat)
  case atStart => exact ⟨0, _, Nat.zero_le _, rfl, rfl, by omega, by omega⟩
  case round =>
    obtain ⟨k, x, hk, rfl, rfl, hx0, hx1⟩ := hrel
    by_cases hlt : k < n
    · obtain ⟨b, off, rfl, hbl, hcell⟩ := HC.out (by omega)
      obtain ⟨c0, c1, c2, c3, c4⟩ := hcell k hlt
      have hcs := (HOK.out k hlt).c
      have hvs := (HSL.out k hlt).1
      have hvk := (HSL.out k hlt).2.1
      unfold maxLen at hcs hvk
      clear hcell
      by_cases t1 : (1048576 : Int) < ((T k).c.size : Int)
      · go_wp2
        go_ret
        exact ⟨.inl rfl, rfl⟩
      by_cases t2 : (1048576 : Int) < x + ((T k).c.size : Int)
      · go_wp2
        go_ret
        exact ⟨.inl rfl, rfl⟩
      by_cases t3 : (1048576 : Int) < ((T k).val.length : Int)
      · go_wp2
        go_ret
        exact ⟨.inl rfl, rfl⟩
      by_cases t4 : (1048576 : Int) < x + ((T k).c.size : Int) + ((T k).val.length : Int)
      · go_wp2
        go_ret
        exact ⟨.inl rfl, rfl⟩
      go_wp2
      go_round
      case rel => exact ⟨k + 1, _, by omega, by go_num, rfl, by omega, by omega⟩
      case measure => simp [intOf]; omega
    · obtain rfl : k = n := by omega
      go_wp2
      go_ret
      exact ⟨.inr rfl, rfl⟩

/-- zzBytes_FnDropBelowMatchesModel. -/
theorem bytes33 (a : Option Addr) (n c : Nat) (g : ByteArray) (x1 : Int) (T : Nat → Stp) (A : Nat → Option Addr) (K : Nat → Nat) (w : World) (hg : g.size ≤ maxLen) (h : StepsAt w a n c T A K) :
    Calls Try.prog 33 #[.slice a n c, .string g, .int .u64 x1] w fun e w' => RetSome e ∧ w' = w := by
  obtain ⟨hnc, hcm, hok, hsl, hc⟩ := h
  have HOK := hide hok
  have HSL := hide hsl
  have HC := hide hc
  clear hok hsl hc
  unfold maxLen at hcm hg
  go_enter Try.func33, Try.ntmps33
  by_cases t0 : (1048576 : Int) < (n : Int)
  · go_wp2
    go_ret
    exact ⟨.inl rfl, rfl⟩
  go_wp2
  go_loop [7, 8] (fun t i => ∃ (k : Nat) (x : Int), k ≤ n ∧ i = .int .i64 k ∧ t = .int .i64 x ∧ 0 ≤ x ∧ x ≤ 1048576) (fun _ i => n - (intOf i).toNat)
  case atStart => exact ⟨0, _, Nat.zero_le _, rfl, rfl, by omega, by omega⟩
  case round =>
    obtain ⟨k, x, hk, rfl, rfl, hx0, hx1⟩ := hrel
    by_cases hlt : k < n
    · obtain ⟨b, off, rfl, hbl, hcell⟩ := HC.out (by omega)
      obtain ⟨c0, c1, c2, c3, c4⟩ := hcell k hlt
      have hcs := (HOK.out k hlt).c
      have hvs := (HSL.out k hlt).1
      have hvk := (HSL.out k hlt).2.1
      unfold maxLen at hcs hvk
      clear hcell
      by_cases t1 : (1048576 : Int) < ((T k).c.size : Int)
      · go_wp2
        go_ret
        exact ⟨.inl rfl, rfl⟩
      by_cases t2 : (1048576 : Int) < x + ((T k).c.size : Int)
      · go_wp2
        go_ret
        exact ⟨.inl rfl, rfl⟩
      by_cases t3 : (1048576 : Int) < ((T k).val.length : Int)
      · go_wp2
        go_ret
        exact ⟨.inl rfl, rfl⟩
      by_cases t4 : (1048576 : Int) < x + ((T k).c.size : Int) + ((T k).val.length : Int)
      · go_wp2
        go_ret
        exact ⟨.inl rfl, rfl⟩
      go_wp2
      go_round
      case rel => exact ⟨k + 1, _, by omega, by go_num, rfl, by omega, by omega⟩
      case measure => simp [intOf]; omega
    · obtain rfl : k = n := by omega
      by_cases t5 : (1048576 : Int) < (g.size : Int)
      · go_wp2
        go_ret
        exact ⟨.inl rfl, rfl⟩
      by_cases t6 : (1048576 : Int) < x + (g.size : Int)
      · go_wp2
        go_ret
        exact ⟨.inl rfl, rfl⟩
      go_wp2
      go_ret
      exact ⟨.inr rfl, rfl⟩
end Go.Proofs.Qxb6617896a
