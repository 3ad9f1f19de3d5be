import Derived.Test.Qxb6617896aParts
import Derived.Test.Qxb6617896aOver
namespace Go.Proofs.Qxb6617896a
open Go.ChangeShapes Go.WideShapes Go.ChangeAt Go.RowKit

set_option maxHeartbeats 1000000 in
theorem law3_walk (a0 : Option Addr) (n0 c0 : Nat) (S0 : Nat → ByteArray) (a1 : Option Addr) (n1 c1 : Nat) (S1 : Nat → ByteArray) (a2 : Option Addr) (n2 c2 : Nat) (Z2 : Nat → Int) (a3 : Option Addr) (n3 c3 : Nat) (Z3 : Nat → Int) (g : ByteArray) (w : World)
    (hs0 : Sl w a0 n0 c0 (fun i => .string (S0 i))) (hs1 : Sl w a1 n1 c1 (fun i => .string (S1 i))) (hs2 : Sl w a2 n2 c2 (fun i => .int .i64 (Z2 i))) (hs3 : Sl w a3 n3 c3 (fun i => .int .i64 (Z3 i))) :
    Calls Try.prog 3 #[.slice a0 n0 c0, .slice a1 n1 c1, .slice a2 n2 c2, .slice a3 n3 c3, .string g] w fun e w' => e = .returned (.bool true) ∧ Below w.heap.size w w' := by
  have H0 : Hid (Sl w a0 n0 c0 (fun i => .string (S0 i))) := hs0
  have H1 : Hid (Sl w a1 n1 c1 (fun i => .string (S1 i))) := hs1
  have H2 : Hid (Sl w a2 n2 c2 (fun i => .int .i64 (Z2 i))) := hs2
  have H3 : Hid (Sl w a3 n3 c3 (fun i => .int .i64 (Z3 i))) := hs3
  clear hs0 hs1 hs2 hs3
  have q23 : ∀ (w : World) (a : Option Addr) (n c n' c' : Nat), (binOp .eql 23 (.slice a n c) (.slice none n' c')).run Try.prog w = .ok (.bool a.isNone) w := fun w a n c n' c' => Lib.run_eql_slice_nil w _ _ a n c n' c' Try.underlying23
  have q22 : ∀ (w : World) (a : Option Addr) (n c n' c' : Nat), (binOp .eql 22 (.slice a n c) (.slice none n' c')).run Try.prog w = .ok (.bool a.isNone) w := fun w a n c n' c' => Lib.run_eql_slice_nil w _ _ a n c n' c' Try.underlying22
  go_enter Try.func3, Try.ntmps3
  go_wp2_with fail
  refine (bytes9_any a0 n0 c0 S0 a1 n1 c1 S1 a2 n2 c2 a3 n3 c3 g _ H0.out H1.out).mono ?_
  rintro e w' ⟨⟨b, rfl⟩, rfl⟩
  cases b
  · go_wp2
    go_ret
    exact ⟨rfl, Below.refl _ _⟩
  by_cases t0 : (65536 : Int) < (n0 : Int)
  · go_wp2
    go_ret
    exact ⟨rfl, Below.refl _ _⟩
  by_cases t1 : (65536 : Int) < (n1 : Int)
  · go_wp2
    go_ret
    exact ⟨rfl, Below.refl _ _⟩
  by_cases t2 : (4096 : Int) < (n2 : Int)
  · go_wp2
    go_ret
    exact ⟨rfl, Below.refl _ _⟩
  by_cases t3 : (4096 : Int) < (n3 : Int)
  · go_wp2
    go_ret
    exact ⟨rfl, Below.refl _ _⟩
  by_cases t4 : (65536 : Int) < (g.size : Int)
  · go_wp2
    go_ret
    exact ⟨rfl, Below.refl _ _⟩
  go_wp2_with fail
  refine (stringsOver_any a0 n0 c0 S0 _ _ (by omega) (by omega) H0.out).mono ?_
  rintro e w1 ⟨⟨u, b, rfl, hu0, hu1⟩, rfl⟩
  cases b
  case true =>
    go_wp2
    go_ret
    exact ⟨rfl, Below.refl _ _⟩
  go_wp2_with fail
  refine (stringsOver_any a1 n1 c1 S1 _ _ (by omega) (by omega) H1.out).mono ?_
  rintro e w2 ⟨⟨u2, b, rfl, hv0, hv1⟩, rfl⟩
  cases b
  case true =>
    go_wp2
    go_ret
    exact ⟨rfl, Below.refl _ _⟩
  clear hu0 hu1 hv0 hv1
  go_wp2_with fail
  refine (partsValid_any a0 n0 c0 a1 n1 c1 a2 n2 c2 Z2 a3 n3 c3 Z3 g _ (by omega) (by omega) (H2.out.below (by go_grown)) (H3.out.below (by go_grown))).mono ?_
  rintro e w3 ⟨⟨r, rfl, hr⟩, hb3⟩
  have HB : Hid (Below w2.heap.size w2 w3) := ((Below.refl w2.heap.size w2).alloc (Nat.le_refl _) _).trans (hb3.mono (by simp))
  have HR : Hid (r = true ↔ PartsP n0 a1 n1 a2 n2 Z2 a3 n3 Z3) := hr
  clear hb3 hr
  cases a1 with
  | none =>
    cases hp : a3.isNone
    · go_wp2
      go_ret
      have hr1 : r = false := by
        cases r
        · rfl
        · exact absurd (HR.out.1 rfl).1 (fun h => by rw [h.1 rfl] at hp; cases hp)
      exact ⟨by rw [hr1]; rfl, HB.out⟩
    · go_wp2_with fail
      refine (assigns_any n0 a2 n2 c2 Z2 _ (by omega) (H2.out.below HB.out)).mono ?_
      rintro e w4 ⟨hr4, hb4⟩
      have HB4 : Hid (Below w2.heap.size w2 w4) := HB.out.trans (hb4.mono HB.out.size)
      clear hb4
      rcases hr4.cases with ⟨hx, rfl⟩ | ⟨hx, rfl⟩
      · have HX : Hid (AssignsP n0 a2 n2 Z2) := hx
        clear hx hr4
        go_wp2_with fail
        refine (assigns_any n1 a3 n3 c3 Z3 _ (by omega) (H3.out.below HB4.out)).mono ?_
        rintro e w5 ⟨hr5, hb5⟩
        have HB5 : Hid (Below w2.heap.size w2 w5) := HB4.out.trans (hb5.mono HB4.out.size)
        clear hb5
        rcases hr5.cases with ⟨hy, rfl⟩ | ⟨hy, rfl⟩
        · have HY : Hid (AssignsP n1 a3 n3 Z3) := hy
          clear hy hr5
          go_wp2
          go_ret
          have hr1 : r = true := HR.out.2 ⟨⟨fun _ => Option.isNone_iff_eq_none.1 hp, fun h => absurd rfl h⟩, (valid_iff_assigns H2.out).2 HX.out, (valid_iff_assigns H3.out).2 HY.out⟩
          exact ⟨by rw [hr1]; rfl, HB5.out⟩
        · have HY : Hid (¬ AssignsP n1 a3 n3 Z3) := hy
          clear hy hr5
          go_wp2
          go_ret
          have hr1 : r = false := by
            cases r
            · rfl
            · exact absurd ((valid_iff_assigns H3.out).1 (HR.out.1 rfl).2.2) HY.out
          exact ⟨by rw [hr1]; rfl, HB5.out⟩
      · have HX : Hid (¬ AssignsP n0 a2 n2 Z2) := hx
        clear hx hr4
        go_wp2
        go_ret
        have hr1 : r = false := by
          cases r
          · rfl
          · exact absurd ((valid_iff_assigns H2.out).1 (HR.out.1 rfl).2.1) HX.out
        exact ⟨by rw [hr1]; rfl, HB4.out⟩
  | some x =>
    cases hp : (a2.isNone == a3.isNone)
    · go_wp2
      go_ret
      have hr1 : r = false := by
        cases r
        · rfl
        · exact absurd (HR.out.1 rfl).1 (fun h => by have := h.2 (by simp); cases a2 <;> cases a3 <;> simp_all)
      exact ⟨by rw [hr1]; rfl, HB.out⟩
    · go_wp2_with fail
      refine (assigns_any n0 a2 n2 c2 Z2 _ (by omega) (H2.out.below HB.out)).mono ?_
      rintro e w4 ⟨hr4, hb4⟩
      have HB4 : Hid (Below w2.heap.size w2 w4) := HB.out.trans (hb4.mono HB.out.size)
      clear hb4
      rcases hr4.cases with ⟨hx, rfl⟩ | ⟨hx, rfl⟩
      · have HX : Hid (AssignsP n0 a2 n2 Z2) := hx
        clear hx hr4
        go_wp2_with fail
        refine (assigns_any n1 a3 n3 c3 Z3 _ (by omega) (H3.out.below HB4.out)).mono ?_
        rintro e w5 ⟨hr5, hb5⟩
        have HB5 : Hid (Below w2.heap.size w2 w5) := HB4.out.trans (hb5.mono HB4.out.size)
        clear hb5
        rcases hr5.cases with ⟨hy, rfl⟩ | ⟨hy, rfl⟩
        · have HY : Hid (AssignsP n1 a3 n3 Z3) := hy
          clear hy hr5
          go_wp2
          go_ret
          have hr1 : r = true := HR.out.2 ⟨⟨fun h => (by cases h), fun _ => (by cases a2 <;> cases a3 <;> simp_all)⟩, (valid_iff_assigns H2.out).2 HX.out, (valid_iff_assigns H3.out).2 HY.out⟩
          exact ⟨by rw [hr1]; rfl, HB5.out⟩
        · have HY : Hid (¬ AssignsP n1 a3 n3 Z3) := hy
          clear hy hr5
          go_wp2
          go_ret
          have hr1 : r = false := by
            cases r
            · rfl
            · exact absurd ((valid_iff_assigns H3.out).1 (HR.out.1 rfl).2.2) HY.out
          exact ⟨by rw [hr1]; rfl, HB5.out⟩
      · have HX : Hid (¬ AssignsP n0 a2 n2 Z2) := hx
        clear hx hr4
        go_wp2
        go_ret
        have hr1 : r = false := by
          cases r
          · rfl
          · exact absurd ((valid_iff_assigns H2.out).1 (HR.out.1 rfl).2.1) HX.out
        exact ⟨by rw [hr1]; rfl, HB4.out⟩

end Go.Proofs.Qxb6617896a
