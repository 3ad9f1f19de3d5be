import Derived.Test.Qxb6617896aRows
import Derived.WalkKit
import Derived.ProofKit
import Derived.Handy
import Derived.WalkSpells
import Derived.WalkLawsBesides
import Derived.Lib.QuoteBits
import Derived.Deep.OwnRows
namespace Go.Proofs.Qxb6617896a
open Go.ChangeShapes Go.WideShapes Go.ChangeAt Go.RowKit

/-- What the walks are told of a slice whose elements are one cell each: its length and capacity fit an int; where it has elements its first 'n' cells, in a block that lies in the world, hold 'V 0', 'V 1', ... -/
def Sl (w : World) (a : Option Addr) (n c : Nat) (V : Nat → Value) : Prop :=
  n ≤ c ∧ c ≤ maxLen ∧ (0 < n → ∃ b off, a = some ⟨b, off, none⟩ ∧ b < w.heap.size ∧ ∀ i, i < n → w.cell? ⟨b, off + i, none⟩ = some (V i))

theorem Sl.below {w w' : World} {a : Option Addr} {n c : Nat} {V : Nat → Value} (h : Sl w a n c V) (hb : Below w.heap.size w w') : Sl w' a n c V := by
  refine ⟨h.1, h.2.1, fun hn => ?_⟩
  obtain ⟨b, off, ha, hlt, hc⟩ := h.2.2 hn
  exact ⟨b, off, ha, Nat.lt_of_lt_of_le hlt hb.size, fun i hi => (hb.cell (p := ⟨b, off + i, none⟩) hlt).trans (hc i hi)⟩

theorem Sl.nil_len {w : World} {n c : Nat} {V : Nat → Value} (h : Sl w none n c V) : n = 0 := by
  rcases Nat.eq_zero_or_pos n with h0 | h0
  · exact h0
  · obtain ⟨b, off, ha, _⟩ := h.2.2 h0
    cases ha

/-- A bool comes back that says whether p holds. -/
def RetB (p : Prop) (e : Ending) : Prop := ∃ r : Bool, e = .returned (.bool r) ∧ (r = true ↔ p)
theorem RetB.yes {p : Prop} (h : p) : RetB p (.returned (.bool true)) := ⟨true, rfl, fun _ => h, fun _ => rfl⟩
theorem RetB.no {p : Prop} (h : ¬ p) : RetB p (.returned (.bool false)) := ⟨false, rfl, fun h' => (by cases h'), fun h' => absurd h' h⟩
theorem RetB.of {p : Prop} {b : Bool} (h : b = true ↔ p) : RetB p (.returned (.bool b)) := ⟨b, rfl, h⟩
theorem RetB.cases {p : Prop} {e : Ending} (h : RetB p e) : (p ∧ e = .returned (.bool true)) ∨ (¬ p ∧ e = .returned (.bool false)) := by
  obtain ⟨r, rfl, hr⟩ := h
  cases r
  · exact .inr ⟨fun hp => (by cases hr.2 hp), rfl⟩
  · exact .inl ⟨hr.1 rfl, rfl⟩

/-- v stands among the first n. -/
def Among (Z : Nat → Int) (n : Nat) (v : Int) : Prop := ∃ i, i < n ∧ Z i = v

/-- slices.Index over ints: where v stands first, or -1. -/
theorem index_any (a : Option Addr) (n c : Nat) (Z : Nat → Int) (v : Int) (w : World) (hs : Sl w a n c (fun i => .int .i64 (Z i))) :
    Calls Try.prog 51 #[.slice a n c, .int .i64 v] w fun e w' => w' = w ∧ ∃ r : Int, e = .returned (.int .i64 r) ∧ (0 ≤ r ↔ ∃ i, i < n ∧ Z i = v) := by
  obtain ⟨hnc, hm, hc⟩ := hs
  unfold maxLen at hm
  have HC : Hid (0 < n → ∃ b off, a = some ⟨b, off, none⟩ ∧ b < w.heap.size ∧ ∀ i, i < n → w.cell? ⟨b, off + i, none⟩ = some (.int .i64 (Z i))) := hc
  clear hc
  go_enter Try.func51, Try.ntmps51
  go_wp2
  go_loop [8] (fun i => ∃ k : Nat, k ≤ n ∧ i = .int .i64 k ∧ Hid (∀ j, j < k → Z j ≠ v)) (fun i => n - (intOf i).toNat)
  case atStart => exact ⟨0, Nat.zero_le _, rfl, fun j hj => absurd hj (by omega)⟩
  case round =>
    obtain ⟨k, hk, rfl, hno⟩ := hrel
    by_cases hlt : k < n
    · obtain ⟨b, off, rfl, hbl, hcell⟩ := HC.out (by omega)
      have hck := hcell k hlt
      clear hcell
      by_cases he : v = Z k
      · have hb : (v == Z k) = true := beq_iff_eq.2 he
        have HE : Hid (v = Z k) := he
        clear he
        go_wp2
        go_ret
        exact ⟨rfl, _, rfl, fun _ => ⟨k, hlt, HE.out.symm⟩, fun _ => by omega⟩
      · have hb : (v == Z k) = false := beq_eq_false_iff_ne.2 he
        have HE : Hid (¬ v = Z k) := he
        clear he
        go_wp2
        go_round
        case rel =>
          refine ⟨k + 1, by omega, by go_num, fun j hj => ?_⟩
          by_cases hjk : j = k
          · subst hjk; exact fun h => HE.out h.symm
          · exact hno.out j (by omega)
        case measure => simp [intOf]; omega
    · go_wp2
      go_ret
      refine ⟨rfl, _, rfl, fun h => absurd h (by omega), fun ⟨i, hi, hv⟩ => absurd hv (hno.out i (by omega))⟩

/-- slices.Contains over ints. -/
theorem contains_any (a : Option Addr) (n c : Nat) (Z : Nat → Int) (v : Int) (w : World) (hs : Sl w a n c (fun i => .int .i64 (Z i))) :
    Calls Try.prog 37 #[.slice a n c, .int .i64 v] w fun e w' => w' = w ∧ RetB (Among Z n v) e := by
  go_enter Try.func37, Try.ntmps37
  go_wp2_with fail
  refine (index_any a n c Z v _ hs).mono ?_
  rintro e w' ⟨rfl, r, rfl, hr⟩
  have HR : Hid (0 ≤ r ↔ ∃ i, i < n ∧ Z i = v) := hr
  clear hr
  go_wp2
  go_ret
  exact ⟨rfl, RetB.of (by unfold Among; rw [← HR.out]; simp)⟩

/-- How many parts a group of k keepers has. -/
def nParts (k : Nat) : Nat := if k % 2 = 0 then k + 1 else k
theorem nParts_bd (k : Nat) : k ≤ nParts k ∧ nParts k ≤ k + 1 := by unfold nParts; split <;> omega

theorem nParts_or (k : Nat) (hk : k ≤ 1048576) : bits .or .i64 (k : Int) 1 = (nParts k : Int) := by
  rw [Lib.or_one k (by omega)]
  unfold nParts
  split <;> omega

theorem partsFor_any (k : Nat) (hk : k ≤ 1048576) (w : World) :
    Calls Try.prog 36 #[.int .i64 (k : Int)] w fun e w' => w' = w ∧ e = .returned (.int .i64 (nParts k)) := by
  go_enter Try.func36, Try.ntmps36
  go_wp2
  go_ret
  exact ⟨rfl, congrArg (fun x => Ending.returned (Value.int .i64 x)) (nParts_or k hk)⟩

theorem partsOf_any (k : Nat) (hk : k ≤ 1048576) (w : World) :
    Calls Try.prog 14 #[.int .i64 (k : Int)] w fun e w' => w' = w ∧ e = .returned (.int .i64 (nParts k)) := by
  by_cases h : k % 2 = 0
  · have HE : Hid ((nParts k : Int) = (k : Int) + 1) := by unfold nParts; rw [if_pos h]; rfl
    go_enter Try.func14, Try.ntmps14
    go_wp2
    go_ret
    exact ⟨rfl, congrArg (fun x => Ending.returned (Value.int .i64 x)) HE.out.symm⟩
  · have HE : Hid ((nParts k : Int) = (k : Int)) := by unfold nParts; rw [if_neg h]; rfl
    go_enter Try.func14, Try.ntmps14
    go_wp2
    go_ret
    exact ⟨rfl, congrArg (fun x => Ending.returned (Value.int .i64 x)) HE.out.symm⟩

/-- The numbers Z 0 .. Z (n-1) are each one of 1 .. nParts k, no one twice. -/
def Good (k : Nat) (Z : Nat → Int) (n : Nat) : Prop := ∀ i, i < n → 1 ≤ Z i ∧ Z i ≤ nParts k ∧ ∀ j, j < i → Z j ≠ Z i

/-- What the closure of PartsValid says of one list of parts. -/
def ValidP (k : Nat) (a : Option Addr) (n : Nat) (Z : Nat → Int) : Prop := Good k Z n ∧ (a = none ∨ n = k)

/-- The closure of PartsValid. -/
theorem valid_any (a0 : Option Addr) (k c0 : Nat) (a : Option Addr) (n c : Nat) (Z : Nat → Int) (w : World) (hk : k ≤ 1048576) (hs : Sl w a n c (fun i => .int .i64 (Z i))) :
    Calls Try.prog 35 #[.slice a0 k c0, .slice a n c] w fun e w' => w' = w ∧ RetB (ValidP k a n Z) e := by
  have hs0 := hs
  obtain ⟨hnc, hm, hc⟩ := hs
  unfold maxLen at hm
  have HC : Hid (0 < n → ∃ b off, a = some ⟨b, off, none⟩ ∧ b < w.heap.size ∧ ∀ i, i < n → w.cell? ⟨b, off + i, none⟩ = some (.int .i64 (Z i))) := hc
  have HS : Hid (Sl w a n c (fun i => .int .i64 (Z i))) := hs0
  clear hc hs0
  have hnp := nParts_bd k
  have q23 : ∀ (w : World) (a : Option Addr) (n c n' c' : Nat), (binOp .eql 23 (.slice a n c) (.slice none n' c')).run Try.prog w = .ok (.bool a.isNone) w := fun w a n c n' c' => Lib.run_eql_slice_nil w _ _ a n c n' c' Try.underlying23
  go_enter Try.func35, Try.ntmps35
  go_wp2_with fail
  refine (partsFor_any k hk _).mono ?_
  rintro e w' ⟨rfl, rfl⟩
  go_wp2
  go_loop [13] (fun i => ∃ k' : Nat, k' ≤ n ∧ i = .int .i64 k' ∧ Hid (Good k Z k')) (fun i => n - (intOf i).toNat)
  case atStart => exact ⟨0, Nat.zero_le _, rfl, fun j hj => absurd hj (by omega)⟩
  case round =>
    obtain ⟨i, hi, rfl, hgo⟩ := hrel
    by_cases hlt : i < n
    · obtain ⟨b, off, rfl, hbl, hcell⟩ := HC.out (by omega)
      have hci := hcell i hlt
      have HCL : Hid (∀ i, i < n → w'.cell? ⟨b, off + i, none⟩ = some (.int .i64 (Z i))) := hcell
      clear hcell
      by_cases h1 : Z i < 1
      · go_wp2
        go_ret
        exact ⟨rfl, RetB.no fun h => absurd (h.1 i hlt).1 (by omega)⟩
      · by_cases h2 : (nParts k : Int) < Z i
        · go_wp2
          go_ret
          exact ⟨rfl, RetB.no fun h => absurd (h.1 i hlt).2.1 (by omega)⟩
        · go_wp2_with fail
          refine (contains_any (some ⟨b, off, none⟩) i c Z (Z i) _ ⟨by omega, by unfold maxLen; omega, fun _ => ⟨b, off, rfl, hbl, fun j hj => HCL.out j (by omega)⟩⟩).mono ?_
          rintro e w1 ⟨rfl, hr⟩
          rcases hr.cases with ⟨hx, rfl⟩ | ⟨hx, rfl⟩
          · have HX : Hid (Among Z i (Z i)) := hx
            clear hx hr
            go_wp2
            go_ret
            refine ⟨rfl, RetB.no fun h => ?_⟩
            obtain ⟨j, hj, e⟩ := HX.out
            exact absurd e ((h.1 i hlt).2.2 j hj)
          · have HX : Hid (¬ Among Z i (Z i)) := hx
            clear hx hr
            go_wp2
            go_round
            case rel =>
              refine ⟨i + 1, by omega, by go_num, fun j hj => ?_⟩
              by_cases hji : j = i
              · subst hji
                exact ⟨by omega, by omega, fun l hl e => HX.out ⟨l, hl, e⟩⟩
              · exact hgo.out j (by omega)
            case measure => simp [intOf]; omega
    · obtain rfl : i = n := by omega
      cases a with
      | none =>
        go_wp2
        go_ret
        exact ⟨rfl, RetB.yes ⟨hgo.out, .inl rfl⟩⟩
      | some x =>
        by_cases hik : i = k
        · have he : ((i : Int) == (k : Int)) = true := by rw [beq_iff_eq]; omega
          have HK : Hid (i = k) := hik
          clear hik
          go_wp2
          go_ret
          exact ⟨rfl, RetB.yes ⟨hgo.out, .inr HK.out⟩⟩
        · have he : ((i : Int) == (k : Int)) = false := by rw [beq_eq_false_iff_ne]; omega
          go_wp2
          go_ret
          exact ⟨rfl, RetB.no fun h => by rcases h.2 with h | h; (· cases h); exact absurd h hik⟩

theorem Try.info4 : (Try.prog.info? 4).map (fun i => (i.zero, i.size, i.bytes)) = some (some (.bool false), 1, 1) := by kernel_rfl

/-- What zzAssigns says of one list of parts. -/
def AssignsP (k : Nat) (a : Option Addr) (n : Nat) (Z : Nat → Int) : Prop := a = none ∨ (n = k ∧ Good k Z n)

theorem assigns_any (k : Nat) (a : Option Addr) (n c : Nat) (Z : Nat → Int) (w : World) (hk : k ≤ 1048576) (hs : Sl w a n c (fun i => .int .i64 (Z i))) :
    Calls Try.prog 12 #[.int .i64 (k : Int), .slice a n c] w fun e w' => RetB (AssignsP k a n Z) e ∧ Below w.heap.size w w' := by
  have q23 : ∀ (w : World) (a : Option Addr) (n c n' c' : Nat), (binOp .eql 23 (.slice a n c) (.slice none n' c')).run Try.prog w = .ok (.bool a.isNone) w := fun w a n c n' c' => Lib.run_eql_slice_nil w _ _ a n c n' c' Try.underlying23
  cases a with
  | none =>
    go_enter Try.func12, Try.ntmps12
    go_wp2
    go_ret
    exact ⟨RetB.yes (.inl rfl), Below.refl _ _⟩
  | some x =>
    by_cases hnk : n = k
    case neg =>
      have hne : ((n : Int) != (k : Int)) = true := by rw [bne_iff_ne]; omega
      go_enter Try.func12, Try.ntmps12
      go_wp2
      go_ret
      exact ⟨RetB.no (fun h => by rcases h with h | h; (· cases h); exact absurd h.1 hnk), Below.refl _ _⟩
    case pos =>
      subst hnk
      obtain ⟨N, hN⟩ : ∃ N, N = nParts n := ⟨_, rfl⟩
      have hnp := nParts_bd n
      rw [← hN] at hnp
      have HN : Hid (N = nParts n) := hN
      clear hN
      have hmk : ∀ w : World, (Instr.makeSlice 44 (.int .i64 ((N : Int) + 1)) (.int .i64 ((N : Int) + 1))).run Try.prog w = .ok (.slice (some ⟨w.heap.size, 0, none⟩) (N + 1) (N + 1)) (w.alloc (.cells (madeCells #[.bool false] (N + 1)) 4)) := fun w => by
        have := run_make_row' (P := Try.prog) 44 4 (.bool false) 1 Try.underlying44 Try.info4 rfl .i64 .i64 (N + 1) (by omega) (by omega) w
        simpa using this
      go_enter Try.func12, Try.ntmps12
      go_wp2_with fail
      refine (partsOf_any n hk _).mono ?_
      rintro e w' ⟨rfl, rfl⟩
      rw [← HN.out]
      obtain ⟨hnc, hm, hc⟩ := hs
      have HC : Hid (0 < n → ∃ b off, some x = some ⟨b, off, none⟩ ∧ b < w'.heap.size ∧ ∀ i, i < n → w'.cell? ⟨b, off + i, none⟩ = some (.int .i64 (Z i))) := hc
      clear hc
      unfold maxLen at hm
      go_wp2
      go_loopw [7] (fun i wr => ∃ i' : Nat, i' ≤ n ∧ i = .int .i64 i' ∧ Hid (Good n Z i') ∧ Below w'.heap.size w' wr ∧ ∃ seen : Nat → Bool, Hid (∀ p : Nat, seen p = true ↔ Among Z i' p) ∧ Hid (wr.rowIs w'.heap.size 4 (N + 1) (fun p => .bool (seen p)))) (fun i _ => n - (intOf i).toNat)
      case atStart =>
        refine ⟨0, Nat.zero_le _, rfl, fun j hj => absurd hj (by omega), (Below.refl _ _).alloc (Nat.le_refl _) _, fun _ => false, fun p => ?_, World.rowIs_made _ _ _ _⟩
        exact ⟨fun h => (by cases h), fun ⟨i, hi, _⟩ => absurd hi (by omega)⟩
      case round =>
        obtain ⟨i, hi, rfl, hgo, hbw, seen, hseen, hrow⟩ := hrel
        by_cases hlt : i < n
        · obtain ⟨b, off, hx, hbl, hcell⟩ := HC.out (by omega)
          obtain rfl : x = ⟨b, off, none⟩ := by simpa using hx
          clear hx
          have hci : wr.cell? ⟨b, off + i, none⟩ = some (.int .i64 (Z i)) := (hbw.cell (p := ⟨b, off + i, none⟩) hbl).trans (hcell i hlt)
          have HB : Hid (Below w'.heap.size w' wr) := hbw
          clear hcell hbw
          by_cases h1 : Z i < 1
          · go_wp2
            go_ret
            exact ⟨RetB.no (fun h => by rcases h with h | h; (· cases h); exact absurd (h.2 i hlt).1 (by omega)), HB.out⟩
          · by_cases h2 : (N : Int) < Z i
            · go_wp2
              go_ret
              exact ⟨RetB.no (fun h => by rcases h with h | h; (· cases h); exact absurd (h.2 i hlt).2.1 (by rw [← HN.out]; omega)), HB.out⟩
            · obtain ⟨q, hq⟩ : ∃ q : Nat, Z i = (q : Int) := ⟨(Z i).toNat, by omega⟩
              have hcq := hrow.out.cell (i := q) (by omega)
              have hfq := hrow.out.frozen q
              have HQ : Hid (Z i = (q : Int)) := hq
              rw [hq] at hci
              have hq1 : 1 ≤ q := by omega
              have hq2 : q ≤ N := by omega
              clear hq h1 h2
              cases hsq : seen q with
              | true =>
                rw [hsq] at hcq
                have HSQ : Hid (seen q = true) := hsq
                clear hsq
                go_wp2
                go_ret
                refine ⟨RetB.no (fun h => ?_), HB.out⟩
                rcases h with h | h
                · cases h
                · obtain ⟨j, hj, e⟩ := (hseen.out q).1 HSQ.out
                  exact absurd (e.trans HQ.out.symm) ((h.2 i hlt).2.2 j hj)
              | false =>
                rw [hsq] at hcq
                have HSQ : Hid (seen q = false) := hsq
                clear hsq
                go_wp2
                go_roundw
                case rel =>
                  refine ⟨i + 1, by omega, by go_num, fun j hj => ?_, HB.out.setCell (Nat.le_refl _) _, fun p => if p = q then true else seen p, fun p => ?_, (hrow.out.set q (.bool true)).congr fun j _ => (by show (if j = q then _ else _) = Value.bool (if j = q then true else seen j); split <;> rfl)⟩
                  · by_cases hji : j = i
                    · subst hji
                      refine ⟨by rw [HQ.out]; omega, by rw [HQ.out, ← HN.out]; omega, fun l hl e => ?_⟩
                      have := (hseen.out q).2 ⟨l, hl, e.trans HQ.out⟩
                      rw [HSQ.out] at this
                      cases this
                    · exact hgo.out j (by omega)
                  · show (if p = q then true else seen p) = true ↔ _
                    by_cases hpq : p = q
                    · subst hpq
                      rw [if_pos rfl]
                      exact ⟨fun _ => ⟨i, by omega, HQ.out⟩, fun _ => rfl⟩
                    · rw [if_neg hpq, hseen.out p]
                      refine ⟨fun ⟨j, hj, e⟩ => ⟨j, by omega, e⟩, fun ⟨j, hj, e⟩ => ?_⟩
                      by_cases hji : j = i
                      · subst hji
                        rw [HQ.out] at e
                        exact absurd (by omega) hpq
                      · exact ⟨j, by omega, e⟩
                case measure => simp [intOf]; omega
        · obtain rfl : i = n := by omega
          have HB : Hid (Below w'.heap.size w' wr) := hbw
          clear hbw
          go_wp2
          go_ret
          exact ⟨RetB.yes (.inr ⟨rfl, hgo.out⟩), HB.out⟩

/-- The two answers are one. -/
theorem valid_iff_assigns {w : World} {k : Nat} {a : Option Addr} {n c : Nat} {Z : Nat → Int} {V : Nat → Value} (hs : Sl w a n c V) : ValidP k a n Z ↔ AssignsP k a n Z := by
  unfold ValidP AssignsP
  constructor
  · rintro ⟨hg, h | h⟩
    · exact .inl h
    · exact .inr ⟨h, hg⟩
  · rintro (h | ⟨h, hg⟩)
    · subst h
      refine ⟨fun i hi => absurd hi (by rw [hs.nil_len]; omega), .inl rfl⟩
    · exact ⟨hg, .inr h⟩

end Go.Proofs.Qxb6617896a
