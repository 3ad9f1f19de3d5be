import Derived.Test.Qxb6617896aBase
namespace Go.Proofs.Qxb6617896a
open Go.ChangeShapes Go.WideShapes Go.ChangeAt Go.RowKit

def PairedP (a1 a2 a3 : Option Addr) : Prop := (a1 = none → a3 = none) ∧ (a1 ≠ none → (a2 = none ↔ a3 = none))
def PartsP (k : Nat) (a1 : Option Addr) (k1 : Nat) (a2 : Option Addr) (n2 : Nat) (Z2 : Nat → Int) (a3 : Option Addr) (n3 : Nat) (Z3 : Nat → Int) : Prop :=
  PairedP a1 a2 a3 ∧ ValidP k a2 n2 Z2 ∧ ValidP k1 a3 n3 Z3

set_option maxHeartbeats 1000000 in
/-- (Membership).PartsValid. -/
theorem partsValid_any (a0 : Option Addr) (k c0 : Nat) (a1 : Option Addr) (k1 c1 : Nat) (a2 : Option Addr) (n2 c2 : Nat) (Z2 : Nat → Int) (a3 : Option Addr) (n3 c3 : Nat) (Z3 : Nat → Int) (g : ByteArray) (w : World)
    (hk : k ≤ 1048576) (hk1 : k1 ≤ 1048576) (h2 : Sl w a2 n2 c2 (fun i => .int .i64 (Z2 i))) (h3 : Sl w a3 n3 c3 (fun i => .int .i64 (Z3 i))) :
    Calls Try.prog 11 #[.agg #[.slice a0 k c0, .slice a1 k1 c1, .slice a2 n2 c2, .slice a3 n3 c3, .string g]] w fun e w' =>
      RetB (PartsP k a1 k1 a2 n2 Z2 a3 n3 Z3) e ∧ Below w.heap.size w w' := by
  have q23 : ∀ (w : World) (a : Option Addr) (n c n' c' : Nat), (binOp .eql 23 (.slice a n c) (.slice none n' c')).run Try.prog w = .ok (.bool a.isNone) w := fun w a n c n' c' => Lib.run_eql_slice_nil w _ _ a n c n' c' Try.underlying23
  cases a1 with
  | none =>
    cases a3 with
    | some y =>
      go_enter Try.func11, Try.ntmps11
      go_wp2
      go_ret
      exact ⟨RetB.no (fun h => by exact absurd (h.1.1 rfl) (by simp)), by go_grown⟩
    | none =>
      have HS2 : Hid (Sl w a2 n2 c2 (fun i => .int .i64 (Z2 i))) := h2
      have HS3 : Hid (Sl w none n3 c3 (fun i => .int .i64 (Z3 i))) := h3
      clear h2 h3
      go_enter Try.func11, Try.ntmps11
      go_wp2_with (go_at_call 38; go_in)
      refine (valid_any a0 k c0 a2 n2 c2 Z2 _ hk (HS2.out.below (by go_grown))).mono ?_
      rintro e w1 ⟨rfl, hr⟩
      rcases hr.cases with ⟨hx, rfl⟩ | ⟨hx, rfl⟩
      · have HX : Hid (ValidP k a2 n2 Z2) := hx
        clear hx hr
        go_wp2_with fail
        refine (valid_any none k1 c1 none n3 c3 Z3 _ hk1 (HS3.out.below (by go_grown))).mono ?_
        rintro e w1 ⟨rfl, hr⟩
        rcases hr.cases with ⟨hy, rfl⟩ | ⟨hy, rfl⟩
        · have HY : Hid (ValidP k1 none n3 Z3) := hy
          clear hy hr
          go_wp2
          go_ret
          exact ⟨RetB.yes ⟨⟨by simp, by simp⟩, HX.out, HY.out⟩, by go_grown⟩
        · have HY : Hid (¬ ValidP k1 none n3 Z3) := hy
          clear hy hr
          go_wp2
          go_ret
          exact ⟨RetB.no (fun h => HY.out h.2.2), by go_grown⟩
      · have HX : Hid (¬ ValidP k a2 n2 Z2) := hx
        clear hx hr
        go_wp2
        go_ret
        exact ⟨RetB.no (fun h => HX.out h.2.1), by go_grown⟩
  | some x =>
    cases a2 with
    | none =>
      cases a3 with
      | some y =>
        go_enter Try.func11, Try.ntmps11
        go_wp2
        go_ret
        exact ⟨RetB.no (fun h => by exact absurd ((h.1.2 (by simp)).1 rfl) (by simp)), by go_grown⟩
      | none =>
        have HS2 : Hid (Sl w none n2 c2 (fun i => .int .i64 (Z2 i))) := h2
        have HS3 : Hid (Sl w none n3 c3 (fun i => .int .i64 (Z3 i))) := h3
        clear h2 h3
        go_enter Try.func11, Try.ntmps11
        go_wp2_with (go_at_call 38; go_in)
        refine (valid_any a0 k c0 none n2 c2 Z2 _ hk (HS2.out.below (by go_grown))).mono ?_
        rintro e w1 ⟨rfl, hr⟩
        rcases hr.cases with ⟨hx, rfl⟩ | ⟨hx, rfl⟩
        · have HX : Hid (ValidP k none n2 Z2) := hx
          clear hx hr
          go_wp2_with fail
          refine (valid_any (some x) k1 c1 none n3 c3 Z3 _ hk1 (HS3.out.below (by go_grown))).mono ?_
          rintro e w1 ⟨rfl, hr⟩
          rcases hr.cases with ⟨hy, rfl⟩ | ⟨hy, rfl⟩
          · have HY : Hid (ValidP k1 none n3 Z3) := hy
            clear hy hr
            go_wp2
            go_ret
            exact ⟨RetB.yes ⟨⟨by simp, by simp⟩, HX.out, HY.out⟩, by go_grown⟩
          · have HY : Hid (¬ ValidP k1 none n3 Z3) := hy
            clear hy hr
            go_wp2
            go_ret
            exact ⟨RetB.no (fun h => HY.out h.2.2), by go_grown⟩
        · have HX : Hid (¬ ValidP k none n2 Z2) := hx
          clear hx hr
          go_wp2
          go_ret
          exact ⟨RetB.no (fun h => HX.out h.2.1), by go_grown⟩
    | some z =>
      cases a3 with
      | none =>
        go_enter Try.func11, Try.ntmps11
        go_wp2
        go_ret
        exact ⟨RetB.no (fun h => by exact absurd ((h.1.2 (by simp)).2 rfl) (by simp)), by go_grown⟩
      | some y =>
        have HS2 : Hid (Sl w (some z) n2 c2 (fun i => .int .i64 (Z2 i))) := h2
        have HS3 : Hid (Sl w (some y) n3 c3 (fun i => .int .i64 (Z3 i))) := h3
        clear h2 h3
        go_enter Try.func11, Try.ntmps11
        go_wp2_with (go_at_call 38; go_in)
        refine (valid_any a0 k c0 (some z) n2 c2 Z2 _ hk (HS2.out.below (by go_grown))).mono ?_
        rintro e w1 ⟨rfl, hr⟩
        rcases hr.cases with ⟨hx, rfl⟩ | ⟨hx, rfl⟩
        · have HX : Hid (ValidP k (some z) n2 Z2) := hx
          clear hx hr
          go_wp2_with fail
          refine (valid_any (some x) k1 c1 (some y) n3 c3 Z3 _ hk1 (HS3.out.below (by go_grown))).mono ?_
          rintro e w1 ⟨rfl, hr⟩
          rcases hr.cases with ⟨hy, rfl⟩ | ⟨hy, rfl⟩
          · have HY : Hid (ValidP k1 (some y) n3 Z3) := hy
            clear hy hr
            go_wp2
            go_ret
            exact ⟨RetB.yes ⟨⟨by simp, by simp⟩, HX.out, HY.out⟩, by go_grown⟩
          · have HY : Hid (¬ ValidP k1 (some y) n3 Z3) := hy
            clear hy hr
            go_wp2
            go_ret
            exact ⟨RetB.no (fun h => HY.out h.2.2), by go_grown⟩
        · have HX : Hid (¬ ValidP k (some z) n2 Z2) := hx
          clear hx hr
          go_wp2
          go_ret
          exact ⟨RetB.no (fun h => HX.out h.2.1), by go_grown⟩

end Go.Proofs.Qxb6617896a
