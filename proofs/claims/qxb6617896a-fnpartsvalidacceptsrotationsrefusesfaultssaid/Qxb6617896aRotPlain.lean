import Derived.Test.Qxb6617896aRot
import Derived.Test.Qxb6617896aParts
import Derived.Test.Qxb6617896aOver
namespace Go.Proofs.Qxb6617896a
open Go.ChangeShapes Go.WideShapes Go.ChangeAt Go.RowKit

theorem nParts_pos (k : Nat) : 1 ≤ nParts k := by unfold nParts; split <;> omega

theorem rot_inj {N t i j : Int} (h0 : 0 ≤ t) (h1 : t < N) (hi0 : 0 ≤ i) (hi : i < N) (hj0 : 0 ≤ j) (hj : j < N) (h : (i + t) % N = (j + t) % N) : i = j := by
  have a : (i + t) % N = if i + t < N then i + t else i + t - N := by
    split
    · exact Int.emod_eq_of_lt (by omega) (by omega)
    · rw [← Int.sub_emod_right (i + t) N]; exact Int.emod_eq_of_lt (by omega) (by omega)
  have b : (j + t) % N = if j + t < N then j + t else j + t - N := by
    split
    · exact Int.emod_eq_of_lt (by omega) (by omega)
    · rw [← Int.sub_emod_right (j + t) N]; exact Int.emod_eq_of_lt (by omega) (by omega)
  rw [a, b] at h
  split at h <;> split at h <;> omega

theorem good_rot (k : Nat) (s : Int) : Good k (rot k s) k := by
  have hnp := nParts_bd k
  have hp := nParts_pos k
  intro i hi
  have t0 := Int.emod_nonneg s (b := (nParts k : Int)) (by omega)
  have t1 := Int.emod_lt_of_pos s (b := (nParts k : Int)) (by omega)
  unfold rot
  have a0 := Int.emod_nonneg ((i : Int) + s % (nParts k : Int)) (b := (nParts k : Int)) (by omega)
  have a1 := Int.emod_lt_of_pos ((i : Int) + s % (nParts k : Int)) (b := (nParts k : Int)) (by omega)
  refine ⟨by omega, by omega, fun j hj e => ?_⟩
  have := rot_inj t0 t1 (i := (j : Int)) (j := (i : Int)) (by omega) (by omega) (by omega) (by omega) (by omega)
  omega

theorem valid_rot (k : Nat) (s : Int) (a : Option Addr) : ValidP k a k (rot k s) := ⟨good_rot k s, .inr rfl⟩
theorem valid_nil (k : Nat) (Z : Nat → Int) : ValidP k none 0 Z := ⟨fun i hi => absurd hi (by omega), .inl rfl⟩
theorem not_valid_len {k n : Nat} {x : Addr} {Z : Nat → Int} (h : n ≠ k) : ¬ ValidP k (some x) n Z := fun hv => by
  rcases hv.2 with h' | h'
  · cases h'
  · exact h h'
theorem not_valid_low {k n j : Nat} {a : Option Addr} {Z : Nat → Int} (hj : j < n) (h : Z j < 1) : ¬ ValidP k a n Z := fun hv => absurd (hv.1 j hj).1 (by omega)
theorem not_valid_high {k n j : Nat} {a : Option Addr} {Z : Nat → Int} (hj : j < n) (h : (nParts k : Int) < Z j) : ¬ ValidP k a n Z := fun hv => absurd (hv.1 j hj).2.1 (by omega)
theorem not_valid_twin {k n j o : Nat} {a : Option Addr} {Z : Nat → Int} (hj : j < n) (ho : o < n) (hne : o ≠ j) (h : Z j = Z o) : ¬ ValidP k a n Z := fun hv => by
  rcases Nat.lt_or_gt_of_ne hne with h' | h'
  · exact (hv.1 j hj).2.2 o h' h.symm
  · exact (hv.1 o ho).2.2 j h' h

theorem Sl.of_row {w : World} {B t n : Nat} {f : Nat → Value} (hn : n ≤ 1048577) (h : w.rowIs B t n f) : Sl w (some ⟨B, 0, none⟩) n n f :=
  ⟨Nat.le_refl _, by unfold maxLen; omega, fun _ => ⟨B, 0, rfl, h.lt, fun i hi => by rw [Nat.zero_add]; exact h.cell hi⟩⟩

theorem Sl.congr {w : World} {a : Option Addr} {n c : Nat} {V V' : Nat → Value} (h : Sl w a n c V) (e : ∀ i, i < n → V i = V' i) : Sl w a n c V' := by
  refine ⟨h.1, h.2.1, fun hn => ?_⟩
  obtain ⟨b, off, ha, hlt, hc⟩ := h.2.2 hn
  exact ⟨b, off, ha, hlt, fun i hi => by rw [hc i hi, e i hi]⟩

theorem Sl.take {w : World} {a : Option Addr} {n m c : Nat} {V : Nat → Value} (h : Sl w a n c V) (hm : m ≤ n) : Sl w a m c V := by
  refine ⟨Nat.le_trans hm h.1, h.2.1, fun hp => ?_⟩
  obtain ⟨b, off, ha, hlt, hc⟩ := h.2.2 (by omega)
  exact ⟨b, off, ha, hlt, fun i hi => hc i (by omega)⟩

theorem Sl.cell0 {w : World} {B n c : Nat} {V : Nat → Value} (h : Sl w (some ⟨B, 0, none⟩) n c V) {i : Nat} (hi : i < n) : w.cell? ⟨B, i, none⟩ = some (V i) := by
  obtain ⟨b, off, ha, _, hc⟩ := h.2.2 (by omega)
  have e : B = b ∧ 0 = off := by simpa using ha
  obtain ⟨rfl, rfl⟩ := e
  simpa using hc i hi

/-- A row of one's own, as the laws on append want it. -/
theorem ownsRow_of_row {w : World} {B base n : Nat} {f : Nat → Value} (hn : n ≤ 1048577) (hb : base ≤ B) (h : w.rowIs B 3 n f) : w.ownsRow base 3 1 (.slice (some ⟨B, 0, none⟩) n n) n ((List.range n).map f) := by
  obtain ⟨c, hc, hs, hf⟩ := h
  refine ⟨by simp, .inr ⟨B, n, c, rfl, hb, hc, Nat.le_refl _, by unfold maxLen; omega, by omega, ?_⟩⟩
  apply List.ext_getElem?
  intro i
  by_cases hi : i < n
  · rw [Nat.mul_one, List.getElem?_take_of_lt hi, Array.getElem?_toList, hf i hi]
    simp [hi]
  · rw [List.getElem?_eq_none (by simp; omega), List.getElem?_eq_none (by simp; omega)]

/-- What an append of one int leaves. -/
theorem sl_of_appended {w : World} {base n : Nat} {Z : Nat → Int} {y : Int} {v : Value} (h : w.ownsRow base 3 1 v (n + 1) ((List.range n).map (fun i => Value.int .i64 (Z i)) ++ [.int .i64 y])) :
    ∃ g cap, v = .slice (some ⟨g, 0, none⟩) (n + 1) cap ∧ Sl w (some ⟨g, 0, none⟩) (n + 1) cap (fun i => .int .i64 (if i < n then Z i else y)) := by
  rcases h.2 with ⟨_, h0⟩ | ⟨g, cap, cur, rfl, hb, hh, hl, hm, hsz, htk⟩
  · omega
  refine ⟨g, cap, rfl, hl, hm, fun _ => ⟨g, 0, rfl, (Array.getElem?_eq_some_iff.1 hh).1, fun i hi => ?_⟩⟩
  have e : cur[i]? = some (.int .i64 (if i < n then Z i else y)) := by
    have e1 := congrArg (fun l => l[i]?) htk
    simp only [Nat.mul_one] at e1
    rw [List.getElem?_take_of_lt hi, Array.getElem?_toList] at e1
    rw [e1]
    by_cases hin : i < n
    · rw [List.getElem?_append_left (by simpa using hin), if_pos hin]
      simp [hin]
    · obtain rfl : i = n := by omega
      rw [List.getElem?_append_right (by simp), if_neg hin]
      simp
  simp [World.cell?, hh, e]

set_option maxHeartbeats 1000000 in
/-- zzBytes_FnPartsValidAcceptsRotationsRefusesFaults. -/
theorem bytes13_any (a0 : Option Addr) (n0 c0 : Nat) (S0 : Nat → ByteArray) (a1 : Option Addr) (n1 c1 : Nat) (S1 : Nat → ByteArray) (x2 x3 x4 x5 : Int) (g : ByteArray) (w : World)
    (hs0 : Sl w a0 n0 c0 (fun i => .string (S0 i))) (hs1 : Sl w a1 n1 c1 (fun i => .string (S1 i))) :
    Calls Try.prog 13 #[.slice a0 n0 c0, .slice a1 n1 c1, .int .u64 x2, .int .u64 x3, .int .u64 x4, .int .u64 x5, .string g] w fun e w' => RetAny e ∧ w' = w := by
  obtain ⟨hnc0, hm0, hc0⟩ := hs0
  obtain ⟨hnc1, hm1, hc1⟩ := hs1
  unfold maxLen at hm0 hm1
  have HC0 : Hid (0 < n0 → ∃ b off, a0 = some ⟨b, off, none⟩ ∧ b < w.heap.size ∧ ∀ i, i < n0 → w.cell? ⟨b, off + i, none⟩ = some (.string (S0 i))) := hc0
  have HC1 : Hid (0 < n1 → ∃ b off, a1 = some ⟨b, off, none⟩ ∧ b < w.heap.size ∧ ∀ i, i < n1 → w.cell? ⟨b, off + i, none⟩ = some (.string (S1 i))) := hc1
  clear hc0 hc1
  by_cases hb0 : (1048576 : Int) < (n0 : Int)
  · go_enter Try.func13, Try.ntmps13
    go_wp2
    go_ret
    exact ⟨RetAny.mk _, rfl⟩
  go_enter Try.func13, Try.ntmps13
  go_wp2
  go_loop [15, 16] (fun t i => ∃ (k : Nat) (x : Int), k ≤ n0 ∧ i = .int .i64 k ∧ t = .int .i64 x ∧ 0 ≤ x ∧ x ≤ 1048576) (fun _ i => n0 - (intOf i).toNat)
  case atStart => exact ⟨0, (n0 : Int), Nat.zero_le _, rfl, rfl, by omega, by omega⟩
  case round =>
    obtain ⟨k, x, hk, rfl, rfl, hx0, hx1⟩ := hrel
    by_cases hlt : k < n0
    · obtain ⟨b, off, rfl, hbl, hcell⟩ := HC0.out (by omega)
      have hck := hcell k hlt
      clear hcell
      by_cases hsz : (1048576 : Int) < ((S0 k).size : Int)
      · go_wp2
        go_ret
        exact ⟨RetAny.mk _, rfl⟩
      · by_cases hsz2 : (1048576 : Int) < x + ((S0 k).size : Int)
        · go_wp2
          go_ret
          exact ⟨RetAny.mk _, rfl⟩
        · go_wp2
          go_round
          case rel => exact ⟨k + 1, x + ((S0 k).size : Int), by omega, by go_num, rfl, by omega, by omega⟩
          case measure => simp [intOf]; omega
    · by_cases hb1 : (1048576 : Int) < (n1 : Int)
      · go_wp2
        go_ret
        exact ⟨RetAny.mk _, rfl⟩
      by_cases hb2 : (1048576 : Int) < x + (n1 : Int)
      · go_wp2
        go_ret
        exact ⟨RetAny.mk _, rfl⟩
      go_wp2
      go_loop [15, 17] (fun t i => ∃ (k : Nat) (x : Int), k ≤ n1 ∧ i = .int .i64 k ∧ t = .int .i64 x ∧ 0 ≤ x ∧ x ≤ 1048576) (fun _ i => n1 - (intOf i).toNat)
      case atStart => exact ⟨0, x + (n1 : Int), Nat.zero_le _, rfl, rfl, by omega, by omega⟩
      case round =>
        clear hx0 hx1 hb2
        obtain ⟨k, x, hk, rfl, rfl, hx0, hx1⟩ := hrel
        by_cases hlt : k < n1
        · obtain ⟨b, off, rfl, hbl, hcell⟩ := HC1.out (by omega)
          have hck := hcell k hlt
          clear hcell
          by_cases hsz : (1048576 : Int) < ((S1 k).size : Int)
          · go_wp2
            go_ret
            exact ⟨RetAny.mk _, rfl⟩
          · by_cases hsz2 : (1048576 : Int) < x + ((S1 k).size : Int)
            · go_wp2
              go_ret
              exact ⟨RetAny.mk _, rfl⟩
            · go_wp2
              go_round
              case rel => exact ⟨k + 1, x + ((S1 k).size : Int), by omega, by go_num, rfl, by omega, by omega⟩
              case measure => simp [intOf]; omega
        · by_cases hb4 : (1048576 : Int) < (g.size : Int)
          · go_wp2
            all_goals (go_ret; exact ⟨RetAny.mk _, rfl⟩)
          go_wp2
          all_goals (go_ret; exact ⟨RetAny.mk _, rfl⟩)

end Go.Proofs.Qxb6617896a
