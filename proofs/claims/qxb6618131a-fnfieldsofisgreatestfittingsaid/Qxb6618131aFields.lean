import Derived.Test.Qxb6618131aBase
namespace Go.Proofs.Qxb6618131a
open Go.ChangeShapes Go.WideShapes Go.ChangeAt Go.RowKit

theorem Try.info3 : (Try.prog.info? 3).map (fun i => (i.zero, i.size, i.bytes)) = some (some (.int .i64 0), 1, 8) := by kernel_rfl

theorem Sl.of_nil {w : World} {V : Nat → Value} : Sl w none 0 0 V := ⟨Nat.le_refl _, by unfold maxLen; omega, fun h => absurd h (by omega)⟩

/-- What a slice that was built by append reads as. -/
theorem sl_of_own {w : World} {base e k : Nat} {v : Value} {α : Type} {l : List α} {mk : α → Value} {d : α} (h : w.ownsRow base e 1 v k (l.map mk)) (hk : l.length = k) (hn : k = 0 ↔ v = .slice none 0 0) :
    ∃ a c, v = .slice a l.length c ∧ Sl w a l.length c (fun i => mk (l.getD i d)) ∧ (a = none ↔ l = []) := by
  rcases h.2 with ⟨rfl, h0⟩ | ⟨g, cap, cur, rfl, hb, hh, hl, hm, hsz, htk⟩
  · have e : l = [] := List.length_eq_zero_iff.1 (hk.trans h0)
    subst e
    exact ⟨none, 0, rfl, Sl.of_nil, fun _ => rfl, fun _ => rfl⟩
  · have hk0 : k ≠ 0 := fun h => by have := hn.1 h; simp at this
    subst hk
    refine ⟨some ⟨g, 0, none⟩, cap, rfl, ⟨hl, hm, fun _ => ⟨g, 0, rfl, (Array.getElem?_eq_some_iff.1 hh).1, fun i hi => ?_⟩⟩, fun h => (by cases h), fun h => absurd (by rw [h]; rfl) hk0⟩
    have e1 := congrArg (fun l => l[i]?) htk
    simp only [Nat.mul_one] at e1
    rw [List.getElem?_take_of_lt hi, Array.getElem?_toList] at e1
    simp [World.cell?, hh, e1, hi]

/-- The list and the bool that fieldsOf hands back. -/
def RetF (w : World) (l : List Int) (ok : Bool) (e : Ending) : Prop :=
  ∃ a c, e = .returned (.tuple #[.slice a l.length c, .bool ok]) ∧ Sl w a l.length c (fun i => .int .i64 (l.getD i 0)) ∧ (a = none ↔ l = [])

theorem RetF.nil (w : World) (ok : Bool) : RetF w [] ok (.returned (.tuple #[.slice none 0 0, .bool ok])) := ⟨none, 0, rfl, Sl.of_nil, fun _ => rfl, fun _ => rfl⟩

/-- What fieldsOf computes. -/
def fo (H : Nat → ByteArray) (nh : Nat) (C : Nat → ByteArray) (m : Nat) (opt : ByteArray → Bool) : List Int × Bool :=
  match greedy H nh C opt m with
  | some (nx, l) => (l, decide (nx = nh))
  | none => ([], false)

theorem fo_some {H : Nat → ByteArray} {nh : Nat} {C : Nat → ByteArray} {m : Nat} {opt : ByteArray → Bool} {nx : Nat} {l : List Int} (h : greedy H nh C opt m = some (nx, l)) : fo H nh C m opt = (l, decide (nx = nh)) := by
  unfold fo; rw [h]
theorem fo_none {H : Nat → ByteArray} {nh : Nat} {C : Nat → ByteArray} {m : Nat} {opt : ByteArray → Bool} (h : greedy H nh C opt m = none) : fo H nh C m opt = ([], false) := by
  unfold fo; rw [h]

theorem own_ge {w : World} {base e size n : Nat} {v : Value} {xs : List Value} (h : w.ownsRow base e size v n xs) : ∀ k, v.ownBlock = some k → base ≤ k := by
  intro k hk
  rcases h.2 with ⟨rfl, _⟩ | ⟨g, cap, cur, rfl, hb, _⟩
  · cases hk
  · simp [Value.ownBlock] at hk
    omega

set_option maxHeartbeats 1000000 in
theorem fieldsOf_any (a0 : Option Addr) (n0 c0 : Nat) (H : Nat → ByteArray) (a1 : Option Addr) (n1 c1 : Nat) (C : Nat → ByteArray) (a2 : Option Addr) (n2 c2 : Nat) (O : Nat → ByteArray) (w : World)
    (hb0 : n0 ≤ 1048576) (hb1 : n1 ≤ 1048576)
    (hs0 : Sl w a0 n0 c0 (fun i => .string (H i))) (hs1 : Sl w a1 n1 c1 (fun i => .string (C i))) (hs2 : Sl w a2 n2 c2 (fun i => .string (O i))) :
    Calls Try.prog 13 #[.slice a0 n0 c0, .slice a1 n1 c1, .slice a2 n2 c2] w fun e w' => RetF w' (fo H n0 C n1 (optB O n2)).1 (fo H n0 C n1 (optB O n2)).2 e ∧ Below w.heap.size w w' := by
  have H2 : Hid (Sl w a2 n2 c2 (fun i => .string (O i))) := hs2
  have HC0 : Hid (0 < n0 → ∃ b off, a0 = some ⟨b, off, none⟩ ∧ b < w.heap.size ∧ ∀ i, i < n0 → w.cell? ⟨b, off + i, none⟩ = some (.string (H i))) := hs0.2.2
  have HC1 : Hid (0 < n1 → ∃ b off, a1 = some ⟨b, off, none⟩ ∧ b < w.heap.size ∧ ∀ i, i < n1 → w.cell? ⟨b, off + i, none⟩ = some (.string (C i))) := hs1.2.2
  clear hs0 hs1 hs2
  obtain ⟨i0, hi, hz0, hz1, hz2⟩ := info_parts Try.info3
  go_enter Try.func13, Try.ntmps13
  go_wp2
  go_loopw [6, 8, 13] (fun v nxt i wr => ∃ (k nx : Nat) (l : List Int), k ≤ n1 ∧ i = .int .i64 k ∧ nxt = .int .i64 nx ∧ nx ≤ k ∧ Hid (greedy H n0 C (optB O n2) k = some (nx, l)) ∧ Hid (wr.ownsRow w.heap.size 3 1 v k (l.map (Value.int .i64))) ∧ Hid (k = 0 ↔ v = .slice none 0 0) ∧ Below w.heap.size w wr)
    (fun _ _ i _ => n1 - (intOf i).toNat)
  case atStart => exact ⟨0, 0, [], Nat.zero_le _, rfl, rfl, Nat.le_refl _, rfl, World.ownsRow_nil _ _ _ _, ⟨fun _ => rfl, fun _ => rfl⟩, Below.refl _ _⟩
  case round =>
    obtain ⟨k, nx, l, hk, rfl, rfl, hnk, hg, hown, hnil, hbw⟩ := hrel
    have HB : Hid (Below w.heap.size w wr) := hbw
    have hsz : w.heap.size ≤ wr.heap.size := hbw.size
    clear hbw
    by_cases hlt : k < n1
    · obtain ⟨b, off, rfl, hbl, hcell⟩ := HC1.out (by omega)
      have hck : wr.cell? ⟨b, off + k, none⟩ = some (.string (C k)) := (HB.out.cell (p := ⟨b, off + k, none⟩) hbl).trans (hcell k hlt)
      clear hcell
      by_cases hc : nx < n0 ∧ H nx = C k
      · have HG : Hid (greedy H n0 C (optB O n2) (k + 1) = some (nx + 1, l ++ [(nx : Int)])) := by unfold Hid; rw [greedy_succ hg.out, if_pos hc]
        obtain ⟨hnx, hce⟩ := hc
        obtain ⟨b0, off0, rfl, hbl0, hcell0⟩ := HC0.out (by omega)
        have hch : wr.cell? ⟨b0, off0 + nx, none⟩ = some (.string (H nx)) := (HB.out.cell (p := ⟨b0, off0 + nx, none⟩) hbl0).trans (hcell0 nx hnx)
        have hbq := beqS_true hce
        clear hcell0 hce
        go_wp2_with (at_builtin; refine wpList_append_own _ rfl _ _ 25 rfl w.heap.size 3 i0 (.int .i64 0) 1 8 Try.underlying25 hi hz0 hz1 hz2 rfl (by decide) _ _ _ rfl (hown.out.alloc _) ⟨wr.heap.size, 0, none⟩ 1 1 [.int .i64 ((nx : Int))] rfl rfl (cell_one_new _ _ _) (ints_oneCell .i64 [((nx : Int))]) (by unfold maxLen; omega) (by omega) (by simp; omega) ?_; intro v' w1 hown' hgrow hn')
        have HO : Hid (w1.ownsRow w.heap.size 3 1 v' (k + 1) (l.map (Value.int .i64) ++ [.int .i64 (nx : Int)])) := hown'
        have HNI : Hid (v' = .slice none 0 0 ↔ u6 = .slice none 0 0 ∧ 1 = 0) := hn'
        have HB1 : Hid (Below w.heap.size w w1) := (HB.out.alloc hsz _).grown hgrow (by simp; omega) (own_ge hown.out)
        clear hown' hgrow hn'
        go_wp2
        go_roundw
        case rel =>
          exact ⟨k + 1, nx + 1, l ++ [((nx : Int))], by omega, by go_num, by go_num, by omega, HG, (by rw [List.map_append]; exact HO.out), ⟨fun h => absurd h (by omega), fun h => absurd ((HNI.out.1 h).2) (by omega)⟩, HB1.out⟩
        case measure => simp [intOf]; omega
      · have hcb : nx < n0 → ¬ H nx = C k := fun h1 h2 => hc ⟨h1, h2⟩
        have HX : Hid (¬ (nx < n0 ∧ H nx = C k)) := hc
        clear hc
        by_cases hnx : nx < n0
        · obtain ⟨b0, off0, rfl, hbl0, hcell0⟩ := HC0.out (by omega)
          have hch : wr.cell? ⟨b0, off0 + nx, none⟩ = some (.string (H nx)) := (HB.out.cell (p := ⟨b0, off0 + nx, none⟩) hbl0).trans (hcell0 nx hnx)
          have hbq := beqS_false (hcb hnx)
          clear hcell0 hcb
          go_wp2_with fail
          refine (contains_any a2 n2 c2 O (C k) _ (H2.out.below HB.out)).mono ?_
          rintro e w2 ⟨rfl, hr⟩
          rcases hr.cases with ⟨ho, rfl⟩ | ⟨ho, rfl⟩
          · have HG : Hid (greedy H n0 C (optB O n2) (k + 1) = some (nx, l ++ [-1])) := by unfold Hid; rw [greedy_succ hg.out, if_neg HX.out, if_pos (optB_iff.2 ho)]
            clear ho hr
            go_wp2_with (at_builtin; refine wpList_append_own _ rfl _ _ 25 rfl w.heap.size 3 i0 (.int .i64 0) 1 8 Try.underlying25 hi hz0 hz1 hz2 rfl (by decide) _ _ _ rfl (hown.out.alloc _) ⟨w2.heap.size, 0, none⟩ 1 1 [.int .i64 (-1)] rfl rfl (cell_one_new _ _ _) (ints_oneCell .i64 [(-1)]) (by unfold maxLen; omega) (by omega) (by simp; omega) ?_; intro v' w1 hown' hgrow hn')
            have HO : Hid (w1.ownsRow w.heap.size 3 1 v' (k + 1) (l.map (Value.int .i64) ++ [.int .i64 (-1)])) := hown'
            have HNI : Hid (v' = .slice none 0 0 ↔ u6 = .slice none 0 0 ∧ 1 = 0) := hn'
            have HB1 : Hid (Below w.heap.size w w1) := (HB.out.alloc hsz _).grown hgrow (by simp; omega) (own_ge hown.out)
            clear hown' hgrow hn'
            go_wp2
            go_roundw
            case rel =>
              exact ⟨k + 1, nx, l ++ [(-1)], by omega, by go_num, by go_num, by omega, HG, (by rw [List.map_append]; exact HO.out), ⟨fun h => absurd h (by omega), fun h => absurd ((HNI.out.1 h).2) (by omega)⟩, HB1.out⟩
            case measure => simp [intOf]; omega
          · have HG : Hid (greedy H n0 C (optB O n2) (k + 1) = none) := by unfold Hid; rw [greedy_succ hg.out, if_neg HX.out, if_neg (fun h => ho (optB_iff.1 h))]
            have HF : Hid (fo H n0 C n1 (optB O n2) = ([], false)) := fo_none (by have := greedy_none_mono HG.out (n1 - (k + 1)); rw [show k + 1 + (n1 - (k + 1)) = n1 by omega] at this; exact this)
            clear ho hr
            go_wp2
            go_ret2
            exact ⟨by rw [HF.out]; exact RetF.nil _ _, HB.out⟩
        · clear hcb
          go_wp2_with fail
          refine (contains_any a2 n2 c2 O (C k) _ (H2.out.below HB.out)).mono ?_
          rintro e w2 ⟨rfl, hr⟩
          rcases hr.cases with ⟨ho, rfl⟩ | ⟨ho, rfl⟩
          · have HG : Hid (greedy H n0 C (optB O n2) (k + 1) = some (nx, l ++ [-1])) := by unfold Hid; rw [greedy_succ hg.out, if_neg HX.out, if_pos (optB_iff.2 ho)]
            clear ho hr
            go_wp2_with (at_builtin; refine wpList_append_own _ rfl _ _ 25 rfl w.heap.size 3 i0 (.int .i64 0) 1 8 Try.underlying25 hi hz0 hz1 hz2 rfl (by decide) _ _ _ rfl (hown.out.alloc _) ⟨w2.heap.size, 0, none⟩ 1 1 [.int .i64 (-1)] rfl rfl (cell_one_new _ _ _) (ints_oneCell .i64 [(-1)]) (by unfold maxLen; omega) (by omega) (by simp; omega) ?_; intro v' w1 hown' hgrow hn')
            have HO : Hid (w1.ownsRow w.heap.size 3 1 v' (k + 1) (l.map (Value.int .i64) ++ [.int .i64 (-1)])) := hown'
            have HNI : Hid (v' = .slice none 0 0 ↔ u6 = .slice none 0 0 ∧ 1 = 0) := hn'
            have HB1 : Hid (Below w.heap.size w w1) := (HB.out.alloc hsz _).grown hgrow (by simp; omega) (own_ge hown.out)
            clear hown' hgrow hn'
            go_wp2
            go_roundw
            case rel =>
              exact ⟨k + 1, nx, l ++ [(-1)], by omega, by go_num, by go_num, by omega, HG, (by rw [List.map_append]; exact HO.out), ⟨fun h => absurd h (by omega), fun h => absurd ((HNI.out.1 h).2) (by omega)⟩, HB1.out⟩
            case measure => simp [intOf]; omega
          · have HG : Hid (greedy H n0 C (optB O n2) (k + 1) = none) := by unfold Hid; rw [greedy_succ hg.out, if_neg HX.out, if_neg (fun h => ho (optB_iff.1 h))]
            have HF : Hid (fo H n0 C n1 (optB O n2) = ([], false)) := fo_none (by have := greedy_none_mono HG.out (n1 - (k + 1)); rw [show k + 1 + (n1 - (k + 1)) = n1 by omega] at this; exact this)
            clear ho hr
            go_wp2
            go_ret2
            exact ⟨by rw [HF.out]; exact RetF.nil _ _, HB.out⟩
    · obtain rfl : k = n1 := by omega
      have HF : Hid (fo H n0 C k (optB O n2) = (l, decide (nx = n0))) := fo_some hg.out
      have hlen := (greedy_len hg.out).1
      obtain ⟨a, c, hv, hsl, hne⟩ := sl_of_own (d := (0 : Int)) hown.out hlen hnil.out
      have HS : Hid (Sl wr a l.length c (fun i => .int .i64 (l.getD i 0))) := hsl
      have HNE : Hid (a = none ↔ l = []) := hne
      clear hsl hne hown hnil hlen
      rw [hv]
      by_cases hnn : nx = n0
      · have hbq : ((nx : Int) == (n0 : Int)) = true := by rw [beq_iff_eq]; omega
        have HNN : Hid (nx = n0) := hnn
        clear hv hnn
        go_wp2
        go_ret2
        exact ⟨by rw [HF.out]; exact ⟨a, c, by rw [HNN.out]; simp, HS.out, HNE.out⟩, HB.out⟩
      · have hbq : ((nx : Int) == (n0 : Int)) = false := by rw [beq_eq_false_iff_ne]; omega
        have HNN : Hid (¬ nx = n0) := hnn
        clear hv hnn
        go_wp2
        go_ret2
        exact ⟨by rw [HF.out]; exact ⟨a, c, by simp [HNN.out], HS.out, HNE.out⟩, HB.out⟩

end Go.Proofs.Qxb6618131a
