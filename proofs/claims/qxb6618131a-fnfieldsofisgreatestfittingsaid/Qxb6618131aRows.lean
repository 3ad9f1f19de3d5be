/-
  No cell of these rows narrows 'for every input' (looked for: loops, veiled, ifaces, maps, wideKeys, modest, calm, conditions, laid).
  DERIVED. THE GIVEN ROWS OF THIS SEAT. 2 by the template 'for every input the law returns true; each argument reads behind the call as it read before'; 0 by the template 'total and deterministic' (their statements: Qxb6618131aTotals.lean).
  GIVEN WITH THE SEED: the statements are not yours to turn. If you find one false, say at which input.
  Laid BY PROGRAM, IN A SANDBOX (cutbox-rows.mjs): the forced cells as the released guide's own fill.sh prints them over the translation 0c4b2e6af16a9434… (all of the seat's roots in one cut). By AI agents, Wed Nov 11 2026. No macro, syntax, notation, axiom, sorry.
-/
import Derived.Test.Qxb6618131aChecked
import GoSem.Claim
import GoSem.ClaimJoined
import GoSem.ClaimMapViews
import Derived.JoinedTies
import Derived.KernelRfl
namespace Go.Proofs.Qxb6618131a
/- THE CELL 'sum', in the pinned program and in every row, IS THE sha256 OF THE DUMP (.gsa) THAT Qxb6618131aProg.lean LOADS. Nothing in Lean hashes anything: it is a label: what it is worth is what the hold of that sum in a sandbox is worth. -/
noncomputable def Try.pinned : Pinned := { name := "qxb6618131a", sum := "0c4b2e6af16a9434142ed4c02777acd5ec89ad4a1296a6bc719aad5dfa3291de", checked := Try.checked }
namespace Rows
def none {H : Type} : Left H := { results := [], args := [] }

/-- 'zzlaws_internal_csvfile_b1.FnFieldsOfIsGreatestFitting': WHATEVER THE INPUT: true; the input reads as it did. -/
def fnFieldsOfIsGreatestFittingSpec : ChangeSpec := { name := "fnFieldsOfIsGreatestFitting", fn := fun _ => fun
  | [d1, d2, d3] => { results := [.lit (.bool true)], args := [d1, d2, d3] }
  | _ => none }
def fnFieldsOfIsGreatestFittingRow : OpenClaim := { program := "qxb6618131a", sum := "0c4b2e6af16a9434142ed4c02777acd5ec89ad4a1296a6bc719aad5dfa3291de", func := "example.com/custodex/custodex/zzlaws_internal_csvfile_b1.FnFieldsOfIsGreatestFitting", spec := "fnFieldsOfIsGreatestFitting", apart := false }
def FnFieldsOfIsGreatestFittingSaid : Prop := fnFieldsOfIsGreatestFittingRow.holds Try.pinned (OpenSpec.ofChange fnFieldsOfIsGreatestFittingSpec)

/-- ITS FALSE NEIGHBOUR: 'it returns false'. Refute it at one input. -/
def fnFieldsOfIsGreatestFittingWrong : ChangeSpec := { name := "fnFieldsOfIsGreatestFitting", fn := fun _ => fun
  | [d1, d2, d3] => { results := [.lit (.bool false)], args := [d1, d2, d3] }
  | _ => none }
def FnFieldsOfIsGreatestFittingWrongFalsely : Prop := fnFieldsOfIsGreatestFittingRow.holds Try.pinned (OpenSpec.ofChange fnFieldsOfIsGreatestFittingWrong)

/-- 'zzlaws_internal_csvfile_b1.FnFieldsOfAcceptsAnyLeftOutOptional': WHATEVER THE INPUT: true; the input reads as it did. -/
def fnFieldsOfAcceptsAnyLeftOutOptionalSpec : ChangeSpec := { name := "fnFieldsOfAcceptsAnyLeftOutOptional", fn := fun _ => fun
  | [d1, d2, d3] => { results := [.lit (.bool true)], args := [d1, d2, d3] }
  | _ => none }
def fnFieldsOfAcceptsAnyLeftOutOptionalRow : OpenClaim := { program := "qxb6618131a", sum := "0c4b2e6af16a9434142ed4c02777acd5ec89ad4a1296a6bc719aad5dfa3291de", func := "example.com/custodex/custodex/zzlaws_internal_csvfile_b1.FnFieldsOfAcceptsAnyLeftOutOptional", spec := "fnFieldsOfAcceptsAnyLeftOutOptional", apart := false }
def FnFieldsOfAcceptsAnyLeftOutOptionalSaid : Prop := fnFieldsOfAcceptsAnyLeftOutOptionalRow.holds Try.pinned (OpenSpec.ofChange fnFieldsOfAcceptsAnyLeftOutOptionalSpec)

/-- ITS FALSE NEIGHBOUR: 'it returns false'. Refute it at one input. -/
def fnFieldsOfAcceptsAnyLeftOutOptionalWrong : ChangeSpec := { name := "fnFieldsOfAcceptsAnyLeftOutOptional", fn := fun _ => fun
  | [d1, d2, d3] => { results := [.lit (.bool false)], args := [d1, d2, d3] }
  | _ => none }
def FnFieldsOfAcceptsAnyLeftOutOptionalWrongFalsely : Prop := fnFieldsOfAcceptsAnyLeftOutOptionalRow.holds Try.pinned (OpenSpec.ofChange fnFieldsOfAcceptsAnyLeftOutOptionalWrong)

end Rows
end Go.Proofs.Qxb6618131a
