import Derived.Test.Qxb6617896aSteps
import Derived.BigQuiet
namespace Go.Proofs.Qxb6617896a
open Go.ChangeShapes Go.WideShapes Go.ChangeAt Go.RowKit

theorem info5 : (Try.prog.info? 5).map (fun i => (i.zero, i.size, i.bytes)) = some (some (.int .u8 0), 1, 1) := by kernel_rfl

theorem sl_of_row {w : World} {B t n : Nat} {f : Nat → Value} (hn : n ≤ 1048577) (h : w.rowIs B t n f) : Sl w (some ⟨B, 0, none⟩) n n f :=
  ⟨Nat.le_refl _, by unfold maxLen; omega, fun _ => ⟨B, 0, rfl, h.lt, fun i hi => by rw [Nat.zero_add]; exact h.cell hi⟩⟩

def tot (T : Nat → Stp) : Nat → Nat
  | 0 => 0
  | k + 1 => tot T k + 64 + (T k).c.size + (T k).val.length

def RetOver (T : Nat → Stp) (n : Nat) (L : Int) (e : Ending) : Prop := e = .returned (.bool true) ∨ (e = .returned (.bool false) ∧ (tot T n : Int) ≤ L)

/-- zzStepsOver. -/
theorem stepsOver (a : Option Addr) (n c : Nat) (T : Nat → Stp) (A : Nat → Option Addr) (K : Nat → Nat) (L : Int) (w : World) (hL0 : 0 ≤ L) (hL1 : L ≤ 1048576) (h : StepsAt w a n c T A K) (hn : n ≤ 1048576) :
    Calls Try.prog 18 #[.slice a n c, .int .i64 L] w fun e w' => RetOver T n L e ∧ w' = w := by
  obtain ⟨hnc, hcm, hok, hsl, hc⟩ := h
  have HOK := hide hok
  have HSL := hide hsl
  have HC := hide hc
  clear hok hsl hc
  unfold maxLen at hcm
  go_enter Try.func18, Try.ntmps18
  go_wp2
  go_loop [5, 6] (fun t i => ∃ k : Nat, k ≤ n ∧ i = .int .i64 k ∧ t = .int .i64 (tot T k : Int) ∧ (tot T k : Int) ≤ L) (fun _ i => n - (intOf i).toNat)
  case atStart => exact ⟨0, Nat.zero_le _, rfl, rfl, hL0⟩
  case round =>
    obtain ⟨k, hk, rfl, rfl, ht⟩ := hrel
    by_cases hlt : k < n
    · obtain ⟨b, off, rfl, hbl, hcell⟩ := HC.out (by omega)
      obtain ⟨c0, c1, c2, c3, c4⟩ := hcell k hlt
      have hcs := (HOK.out k hlt).c
      have hvs := (HSL.out k hlt).1
      have hvk := (HSL.out k hlt).2.1
      unfold maxLen at hcs hvk
      clear hcell
      by_cases t1 : L - (tot T k : Int) < 64
      · go_wp2
        go_ret
        exact ⟨.inl rfl, rfl⟩
      by_cases t2 : L - ((tot T k : Int) + 64) < ((T k).c.size : Int)
      · go_wp2
        go_ret
        exact ⟨.inl rfl, rfl⟩
      by_cases t3 : L - ((tot T k : Int) + 64 + ((T k).c.size : Int)) < ((T k).val.length : Int)
      · go_wp2
        go_ret
        exact ⟨.inl rfl, rfl⟩
      go_wp2
      go_round
      case rel => exact ⟨k + 1, by omega, by go_num, by simp only [tot]; go_num, by simp only [tot]; omega⟩
      case measure => simp [intOf]; omega
    · obtain rfl : k = n := by omega
      go_wp2
      go_ret
      exact ⟨.inr ⟨rfl, ht⟩, rfl⟩

/-- zzIncreasing. -/
def RetInc (T : Nat → Stp) (n : Nat) (e : Ending) : Prop := e = .returned (.bool false) ∨ (e = .returned (.bool true) ∧ ∀ i, 1 ≤ i → i < n → (T (i - 1)).idx < (T i).idx)

theorem increasing (a : Option Addr) (n c : Nat) (T : Nat → Stp) (A : Nat → Option Addr) (K : Nat → Nat) (w : World) (h : StepsAt w a n c T A K) (hn : n ≤ 1048576) :
    Calls Try.prog 19 #[.slice a n c] w fun e w' => RetInc T n e ∧ ∃ q, w' = w.drewN q := by
  obtain ⟨hnc, hcm, hok, hsl, hc⟩ := h
  have HOK := hide hok
  have HC := hide hc
  clear hok hsl hc
  unfold maxLen at hcm
  go_enter Try.func19, Try.ntmps19
  go_wp2
  go_loopw [3] (fun i wr => ∃ k q : Nat, 1 ≤ k ∧ (k ≤ n ∨ k = 1) ∧ i = .int .i64 k ∧ wr = w.drewN q ∧ Hid (∀ j, 1 ≤ j → j < k → (T (j - 1)).idx < (T j).idx)) (fun i _ => n - (intOf i).toNat)
  case atStart => exact ⟨1, 0, Nat.le_refl _, .inr rfl, rfl, rfl, fun j h1 h2 => absurd h2 (by omega)⟩
  case round =>
    obtain ⟨k, q, hk1, hk, rfl, rfl, HJ⟩ := hrel
    by_cases hlt : k < n
    · obtain ⟨b, off, rfl, hbl, hcell⟩ := HC.out (by omega)
      obtain ⟨k0, rfl⟩ : ∃ k0, k = k0 + 1 := ⟨k - 1, by omega⟩
      obtain ⟨_, _, _, c3, _⟩ := hcell (k0 + 1) hlt
      obtain ⟨_, _, _, d3, _⟩ := hcell k0 (by omega)
      clear hcell
      have e1 : ((k0 + 1 : Nat) : Int) - 1 = (k0 : Int) := by omega
      by_cases t1 : (T (k0 + 1)).idx ≤ (T k0).idx
      · go_wp2
        go_quiet (fail)
        go_wp2
        go_ret
        exact ⟨.inl rfl, q + nq, by simp⟩
      · go_wp2
        go_quiet (fail)
        go_wp2
        go_roundw
        case rel =>
          refine ⟨k0 + 2, q + nq, by omega, .inl (by omega), by go_num, by simp, fun j h1 h2 => ?_⟩
          by_cases hj : j = k0 + 1
          · subst hj
            show (T k0).idx < _
            omega
          · exact HJ.out j h1 (by omega)
        case measure => simp [intOf]; omega
    · go_wp2
      go_ret
      exact ⟨.inr ⟨rfl, fun i h1 h2 => HJ.out i h1 (by omega)⟩, q, rfl⟩

/-- zzSameBytes. -/
theorem sameBytes (a0 : Option Addr) (l0 : List Int) (c0 : Nat) (a1 : Option Addr) (l1 : List Int) (c1 : Nat) (w : World) (h0 : Sl w a0 l0.length c0 (fun j => .int .u8 (l0.getD j 0))) (h1 : Sl w a1 l1.length c1 (fun j => .int .u8 (l1.getD j 0))) (hn0 : l0.length ≤ 1048576) (hn1 : l1.length ≤ 1048576) :
    Calls Try.prog 31 #[.slice a0 l0.length c0, .slice a1 l1.length c1] w fun e w' => RetB (l0 = l1) e ∧ ∃ q, w' = w.drewN q := by
  obtain ⟨n0, e0⟩ : ∃ n0, l0.length = n0 := ⟨_, rfl⟩
  obtain ⟨n1, e1⟩ : ∃ n1, l1.length = n1 := ⟨_, rfl⟩
  obtain ⟨V0, hV0⟩ : ∃ V0 : Nat → Int, V0 = fun j => l0.getD j 0 := ⟨_, rfl⟩
  obtain ⟨V1, hV1⟩ : ∃ V1 : Nat → Int, V1 = fun j => l1.getD j 0 := ⟨_, rfl⟩
  have hg0 : ∀ j, l0.getD j 0 = V0 j := fun j => by rw [hV0]
  have hg1 : ∀ j, l1.getD j 0 = V1 j := fun j => by rw [hV1]
  simp only [hg0, hg1, e0, e1] at h0 h1 ⊢
  rw [e0] at hn0
  rw [e1] at hn1
  obtain ⟨hk0, hm0, hc0⟩ := h0
  obtain ⟨hk1, hm1, hc1⟩ := h1
  have HC0 := hide hc0
  have HC1 := hide hc1
  have HEQ : Hid (n0 = n1 → (∀ j, j < n0 → V0 j = V1 j) → l0 = l1) := by
    intro hn hj
    refine List.ext_getElem (by omega) (fun j h1 h2 => ?_)
    have := hj j (by omega)
    rw [← hg0, ← hg1] at this
    simpa [List.getD, List.getElem?_eq_getElem h1, List.getElem?_eq_getElem h2] using this
  have HNE : Hid (l0 = l1 → n0 = n1 ∧ ∀ j, V0 j = V1 j) := by
    intro h
    subst h
    exact ⟨by omega, fun j => by rw [← hg0, ← hg1]⟩
  clear hc0 hc1 hg0 hg1 hV0 hV1
  unfold maxLen at hm0 hm1
  go_enter Try.func31, Try.ntmps31
  by_cases t0 : n0 = n1
  · subst t0
    go_wp2
    go_loopw [5] (fun i wr => ∃ k q : Nat, k ≤ n0 ∧ i = .int .i64 k ∧ wr = w.drewN q ∧ Hid (∀ j, j < k → V0 j = V1 j)) (fun i _ => n0 - (intOf i).toNat)
    case atStart => exact ⟨0, 0, Nat.zero_le _, rfl, rfl, fun j h => absurd h (by omega)⟩
    case round =>
      obtain ⟨k, q, hk, rfl, rfl, HJ⟩ := hrel
      by_cases hlt : k < n0
      · obtain ⟨b0, o0, rfl, hbl0, hcell0⟩ := HC0.out (by omega)
        obtain ⟨b1, o1, rfl, hbl1, hcell1⟩ := HC1.out (by omega)
        have d0 := hcell0 k hlt
        have d1 := hcell1 k hlt
        clear hcell0 hcell1
        by_cases t1 : V0 k = V1 k
        · go_wp2
          go_quiet (fail)
          go_wp2
          go_roundw
          case rel =>
            refine ⟨k + 1, q + nq, by omega, by go_num, by simp, fun j h2 => ?_⟩
            by_cases hj : j = k
            · subst hj; exact t1
            · exact HJ.out j (by omega)
          case measure => simp [intOf]; omega
        · go_wp2
          go_quiet (fail)
          go_wp2
          go_ret
          exact ⟨RetB.no (fun h => t1 ((HNE.out h).2 k)), q + nq, by simp⟩
      · go_wp2
        go_ret
        exact ⟨RetB.yes (HEQ.out (by trivial) (fun j hj => HJ.out j (by omega))), q, rfl⟩
  · go_wp2
    go_ret
    exact ⟨RetB.no (fun h => t0 (HNE.out h).1), 0, rfl⟩

/-- A slice of bytes comes back. -/
def RetSl (w w' : World) (l : List Int) (e : Ending) : Prop := ∃ a c, e = .returned (.slice a l.length c) ∧ SlV w' (fun k => w.heap.size ≤ k) a l.length c (fun j => .int .u8 (l.getD j 0))

/-- zzCloneBytes. -/
theorem cloneBytes (a : Option Addr) (l : List Int) (c : Nat) (w : World) (hl : l.length ≤ 1048576) (hs : Sl w a l.length c (fun j => .int .u8 (l.getD j 0))) :
    Calls Try.prog 39 #[.slice a l.length c] w fun e w' => RetSl w w' l e ∧ Below w.heap.size w w' := by
  have q45 : ∀ (w : World) (a : Option Addr) (n c n' c' : Nat), (binOp .eql 45 (.slice a n c) (.slice none n' c')).run Try.prog w = .ok (.bool a.isNone) w := fun w a n c n' c' => Lib.run_eql_slice_nil w _ _ a n c n' c' Try.underlying45
  cases a with
  | none =>
    have h0 : l = [] := List.length_eq_zero_iff.1 hs.nil_len
    subst h0
    have HS := hide hs
    clear hs
    go_enter Try.func39, Try.ntmps39
    go_wp2
    go_ret
    exact ⟨⟨none, 0, rfl, Nat.le_refl _, by unfold maxLen; omega, fun h => absurd h (by simp)⟩, Below.refl _ _⟩
  | some x =>
    obtain ⟨n, e0⟩ : ∃ n, l.length = n := ⟨_, rfl⟩
    obtain ⟨Z, hZ⟩ : ∃ Z : Nat → Int, Z = fun j => l.getD j 0 := ⟨_, rfl⟩
    have hg : ∀ j, l.getD j 0 = Z j := fun j => by rw [hZ]
    have HRET : Hid (∀ (w' : World) (e : Ending) a c, e = .returned (.slice a n c) → SlV w' (fun k => w.heap.size ≤ k) a n c (fun j => .int .u8 (Z j)) → RetSl w w' l e) := by
      intro w' e a c h1 h2
      refine ⟨a, c, by rw [e0]; exact h1, ?_⟩
      simp only [hg, e0]
      exact h2
    simp only [hg, e0] at hs ⊢
    rw [e0] at hl
    have hmk := run_make_row' (P := Try.prog) 45 5 (.int .u8 0) 1 Try.underlying45 info5 rfl .i64 .i64 n (by omega) (by omega)
    obtain ⟨hnc, hm, hc⟩ := hs
    have HC := hide hc
    clear hc hg hZ
    unfold maxLen at hm
    go_enter Try.func39, Try.ntmps39
    go_wp2
    go_loopw [4] (fun i wr => ∃ j : Nat, j ≤ n ∧ i = .int .i64 j ∧ Below w.heap.size w wr ∧ Hid (wr.rowIs w.heap.size 5 n (fun p => .int .u8 (if p < j then Z p else 0)))) (fun i _ => n - (intOf i).toNat)
    case atStart => exact ⟨0, Nat.zero_le _, rfl, (Below.refl _ _).alloc (Nat.le_refl _) _, (World.rowIs_made _ _ _ _).congr fun p _ => by rw [if_neg (by omega)]⟩
    case round =>
      obtain ⟨j, hj, rfl, hbw, hrow⟩ := hrel
      by_cases hlt : j < n
      · obtain ⟨b, off, hx, hbl, hcell⟩ := HC.out (by omega)
        obtain rfl : x = ⟨b, off, none⟩ := by simpa using hx
        clear hx
        have hci : wr.cell? ⟨b, off + j, none⟩ = some (.int .u8 (Z j)) := (hbw.cell (p := ⟨b, off + j, none⟩) hbl).trans (hcell j hlt)
        have HB : Hid (Below w.heap.size w wr) := hbw
        clear hcell hbw
        have hcq := hrow.out.cell (i := j) hlt
        have hfq := hrow.out.frozen j
        rw [if_neg (by omega)] at hcq
        go_wp2
        go_roundw
        case rel =>
          refine ⟨j + 1, by omega, by go_num, HB.out.setCell (Nat.le_refl _) _, (hrow.out.set j _).congr fun p _ => ?_⟩
          show (if p = j then _ else Value.int .u8 (if p < j then Z p else 0)) = Value.int .u8 (if p < j + 1 then Z p else 0)
          by_cases hpj : p = j
          · subst hpj
            rw [if_pos rfl, if_pos (by omega)]
          · rw [if_neg hpj]
            by_cases hpl : p < j
            · rw [if_pos hpl, if_pos (by omega)]
            · rw [if_neg hpl, if_neg (by omega)]
        case measure => simp [intOf]; omega
      · obtain rfl : j = n := by omega
        have HB : Hid (Below w.heap.size w wr) := hbw
        clear hbw
        go_wp2
        go_ret
        have hr := hrow.out.congr (g := fun p => .int .u8 (Z p)) (fun p hp => by rw [if_pos hp])
        exact ⟨HRET.out _ _ _ _ rfl ⟨Nat.le_refl _, by unfold maxLen; omega, fun _ => ⟨w.heap.size, 0, rfl, hr.lt, Nat.le_refl _, fun i hi => by rw [Nat.zero_add]; exact hr.cell hi⟩⟩, HB.out⟩
end Go.Proofs.Qxb6617896a
