import Derived.Test.Qxb6617896aLaw4a
import Derived.Test.Qxb6617896aLaw4b
import Derived.Test.Qxb6617896aOpen
namespace Go.Proofs.Qxb6617896a
open Go.ChangeShapes Go.WideShapes Go.ChangeAt Go.RowKit
open Go.ChangeMaps (open_string shut_string)
set_option linter.unusedVariables false

theorem law4_walk (a0 : Option Addr) (n0 c0 : Nat) (S0 : Nat → ByteArray) (a1 : Option Addr) (n1 c1 : Nat) (S1 : Nat → ByteArray) (s t at_ other : Int) (g : ByteArray) (w : World)
    (hs0 : Sl w a0 n0 c0 (fun i => .string (S0 i))) (hs1 : Sl w a1 n1 c1 (fun i => .string (S1 i)))
    (hs : 0 ≤ s ∧ s ≤ 18446744073709551615) (ht : 0 ≤ t ∧ t ≤ 18446744073709551615) (hat : 0 ≤ at_ ∧ at_ ≤ 18446744073709551615) (hot : 0 ≤ other ∧ other ≤ 18446744073709551615) :
    Calls Try.prog 4 #[.slice a0 n0 c0, .slice a1 n1 c1, .int .u64 s, .int .u64 t, .int .u64 at_, .int .u64 other, .string g] w fun e w' => e = .returned (.bool true) ∧ Below w.heap.size w w' := by
  cases a1 with
  | none => exact law4_walk_none a0 n0 c0 S0 n1 c1 S1 s t at_ other g w hs0 hs1 hs ht hat hot
  | some y => exact law4_walk_some a0 n0 c0 S0 y n1 c1 S1 s t at_ other g w hs0 hs1 hs ht hat hot

set_option maxRecDepth 100000 in
theorem law4_lifted (os : Os) (started : os.Started) (H : Type) (enc : TypeId × Value → H) :
    ReturnsInHanded {} Try.checked os 4 .any (Rows.fnPartsValidAcceptsRotationsRefusesFaultsSpec.pre6 enc Try.prog Try.f4 Rows.fnPartsValidAcceptsRotationsRefusesFaultsRow.domain false) (Rows.fnPartsValidAcceptsRotationsRefusesFaultsSpec.post enc Try.prog Try.f4 false true false false) := by
  refine returnsInHanded_of_change (C := Try.checked) own started (by kernel_rfl) Try.func4
    (ChangeSpec.witness6 (enc := enc) (C := Try.checked) false ⟨#[], #[.slice none 0 0, .slice none 0 0, .int .u64 0, .int .u64 0, .int .u64 0, .int .u64 0, .string ByteArray.empty], []⟩ 8 (by kernel_rfl) (by kernel_rfl) (by kernel_rfl) (by kernel_rfl)) ?_
  intro W base args ds gs before hval0 hW hcnd _
  have hval : ∀ (j : Nat) t v, Try.f4.params[j]? = some t → args[j]? = some v → Value.okWide Try.prog W .any base t v := hval0
  have hW' := hW
  obtain ⟨p, q, hA0, hV, rfl, hfz, hnd⟩ := hW
  have hA : DataW.TrodAll enc Try.prog W 0 (fun _ => true) true Try.f4.params.toList args.toList ds p := hA0
  rw [Try.params4] at hA hval
  obtain ⟨v0, vs0, d0, ds0, p0, q0, hargs, rfl, rfl, h0, r0⟩ := trodAll_cons hA
  obtain ⟨v1, vs1, d1, ds1, p1, q1, rfl, rfl, rfl, h1, r1⟩ := trodAll_cons r0
  obtain ⟨v2, vs2, d2, ds2, p2, q2, rfl, rfl, rfl, h2, r2⟩ := trodAll_cons r1
  obtain ⟨v3, vs3, d3, ds3, p3, q3, rfl, rfl, rfl, h3, r3⟩ := trodAll_cons r2
  obtain ⟨v4, vs4, d4, ds4, p4, q4, rfl, rfl, rfl, h4, r4⟩ := trodAll_cons r3
  obtain ⟨v5, vs5, d5, ds5, p5, q5, rfl, rfl, rfl, h5, r5⟩ := trodAll_cons r4
  obtain ⟨v6, vs6, d6, ds6, p6, q6, rfl, rfl, rfl, h6, r6⟩ := trodAll_cons r5
  obtain ⟨rfl, rfl, rfl⟩ := trodAll_nil r6
  obtain rfl : args = #[v0, v1, v2, v3, v4, v5, v6] := by cases args; simp_all
  obtain ⟨rfl, rfl⟩ := trodVars_none hV
  obtain ⟨a0, n0, c0, rfl⟩ := okWide_slice Try.underlying22 (hval 0 22 v0 rfl rfl)
  obtain ⟨a1, n1, c1, rfl⟩ := okWide_slice Try.underlying22 (hval 1 22 v1 rfl rfl)
  obtain ⟨x2, rfl, rfl, rfl, w2⟩ := open_int Try.underlying31 (hval 2 31 v2 rfl rfl) h2
  obtain ⟨x3, rfl, rfl, rfl, w3⟩ := open_int Try.underlying31 (hval 3 31 v3 rfl rfl) h3
  obtain ⟨x4, rfl, rfl, rfl, w4⟩ := open_int Try.underlying31 (hval 4 31 v4 rfl rfl) h4
  obtain ⟨x5, rfl, rfl, rfl, w5⟩ := open_int Try.underlying31 (hval 5 31 v5 rfl rfl) h5
  obtain ⟨g, rfl, rfl, rfl, w6⟩ := open_string Try.underlying9 (hval 6 9 v6 rfl rfl) h6
  obtain ⟨S0, s0⟩ := sl_strs h0
  obtain ⟨S1, s1⟩ := sl_strs h1
  clear hA0 hval0
  refine (law4_walk a0 n0 c0 S0 a1 n1 c1 S1 x2 x3 x4 x5 g W s0 s1 (bounds_u64 w2) (bounds_u64 w3) (bounds_u64 w4) (bounds_u64 w5)).mono fun e W' ⟨he, bel⟩ => ?_
  subst he
  exact ⟨_, rfl, _, _, _, [], _, [], hW', trodAll_mk1 (shut_bool Try.underlying4 _),
    (trodAll_cons_mk (Below.trod laidOut (by kernel_rfl) (of_decide_eq_true (by kernel_rfl)) h0 bel (trod_places_lt h0)) (trodAll_cons_mk (Below.trod laidOut (by kernel_rfl) (of_decide_eq_true (by kernel_rfl)) h1 bel (trod_places_lt h1))
      (trodAll_cons_mk (shut_int Try.underlying31 w2) (trodAll_cons_mk (shut_int Try.underlying31 w3) (trodAll_cons_mk (shut_int Try.underlying31 w4) (trodAll_cons_mk (shut_int Try.underlying31 w5)
        (trodAll_cons_mk (shut_string Try.underlying9 w6) trodAll_mk0))))))), rfl, bel.frame _, fun h => by cases h⟩

theorem fnPartsValidAcceptsRotationsRefusesFaults_proved : Rows.FnPartsValidAcceptsRotationsRefusesFaultsSaid :=
  OpenClaim.holds_of_wide 4 Try.f4 rfl rfl rfl rfl rfl rfl rfl ⟨rfl, rfl, rfl, rfl, rfl⟩ rfl rfl rfl rfl rfl (by kernel_rfl) Try.func4 (by kernel_rfl)
    (of_decide_eq_true (by kernel_rfl)) (by unfold Func.isWrapper; first | (rw [if_pos (by decide +kernel)]; kernel_rfl) | (rw [if_neg (by decide +kernel)]; exact ⟨rfl, rfl⟩))
    (fun os started H enc _ => law4_lifted os started H enc)
#print axioms fnPartsValidAcceptsRotationsRefusesFaults_proved
end Go.Proofs.Qxb6617896a
