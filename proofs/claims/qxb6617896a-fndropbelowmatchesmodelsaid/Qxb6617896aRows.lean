/-
  No cell of these rows narrows 'for every input' (looked for: loops, veiled, ifaces, maps, wideKeys, modest, calm, conditions, laid).
  DERIVED. THE GIVEN ROWS OF THIS SEAT. 6 by the template 'for every input the law returns true; each argument reads behind the call as it read before'; 0 by the template 'total and deterministic' (their statements: Qxb6617896aTotals.lean).
  GIVEN WITH THE SEED: the statements are not yours to turn. If you find one false, say at which input.
  Laid BY PROGRAM, IN A SANDBOX (cutbox-rows.mjs): the forced cells as the released guide's own fill.sh prints them over the translation e9a68edff27d7224… (all of the seat's roots in one cut). By AI agents, Wed Nov 11 2026. No macro, syntax, notation, axiom, sorry.
-/
import Derived.Test.Qxb6617896aChecked
import GoSem.Claim
import GoSem.ClaimJoined
import GoSem.ClaimMapViews
import Derived.JoinedTies
import Derived.KernelRfl
namespace Go.Proofs.Qxb6617896a
/- THE CELL 'sum', in the pinned program and in every row, IS THE sha256 OF THE DUMP (.gsa) THAT Qxb6617896aProg.lean LOADS. Nothing in Lean hashes anything: it is a label: what it is worth is what the hold of that sum in a sandbox is worth. -/
noncomputable def Try.pinned : Pinned := { name := "qxb6617896a", sum := "e9a68edff27d722486264e296840d33a2aa6f08ece5de4c80fa2af39d42d07a9", checked := Try.checked }
namespace Rows
def none {H : Type} : Left H := { results := [], args := [] }

/-- 'zzlaws_kv_b1.FnPartsValidMatchesModel': WHATEVER THE INPUT: true; the input reads as it did. -/
def fnPartsValidMatchesModelSpec : ChangeSpec := { name := "fnPartsValidMatchesModel", fn := fun _ => fun
  | [d1, d2, d3, d4, d5] => { results := [.lit (.bool true)], args := [d1, d2, d3, d4, d5] }
  | _ => none }
def fnPartsValidMatchesModelRow : OpenClaim := { program := "qxb6617896a", sum := "e9a68edff27d722486264e296840d33a2aa6f08ece5de4c80fa2af39d42d07a9", func := "example.com/quorumkeep/quorumkeep/zzlaws_kv_b1.FnPartsValidMatchesModel", spec := "fnPartsValidMatchesModel", unfollowed := true, recurses := true, apart := false }
def FnPartsValidMatchesModelSaid : Prop := fnPartsValidMatchesModelRow.holds Try.pinned (OpenSpec.ofChange fnPartsValidMatchesModelSpec)

/-- ITS FALSE NEIGHBOUR: 'it returns false'. Refute it at one input. -/
def fnPartsValidMatchesModelWrong : ChangeSpec := { name := "fnPartsValidMatchesModel", fn := fun _ => fun
  | [d1, d2, d3, d4, d5] => { results := [.lit (.bool false)], args := [d1, d2, d3, d4, d5] }
  | _ => none }
def FnPartsValidMatchesModelWrongFalsely : Prop := fnPartsValidMatchesModelRow.holds Try.pinned (OpenSpec.ofChange fnPartsValidMatchesModelWrong)

/-- 'zzlaws_kv_b1.FnPartsValidAcceptsRotationsRefusesFaults': WHATEVER THE INPUT: true; the input reads as it did. -/
def fnPartsValidAcceptsRotationsRefusesFaultsSpec : ChangeSpec := { name := "fnPartsValidAcceptsRotationsRefusesFaults", fn := fun _ => fun
  | [d1, d2, d3, d4, d5, d6, d7] => { results := [.lit (.bool true)], args := [d1, d2, d3, d4, d5, d6, d7] }
  | _ => none }
def fnPartsValidAcceptsRotationsRefusesFaultsRow : OpenClaim := { program := "qxb6617896a", sum := "e9a68edff27d722486264e296840d33a2aa6f08ece5de4c80fa2af39d42d07a9", func := "example.com/quorumkeep/quorumkeep/zzlaws_kv_b1.FnPartsValidAcceptsRotationsRefusesFaults", spec := "fnPartsValidAcceptsRotationsRefusesFaults", unfollowed := true, recurses := true, apart := false }
def FnPartsValidAcceptsRotationsRefusesFaultsSaid : Prop := fnPartsValidAcceptsRotationsRefusesFaultsRow.holds Try.pinned (OpenSpec.ofChange fnPartsValidAcceptsRotationsRefusesFaultsSpec)

/-- ITS FALSE NEIGHBOUR: 'it returns false'. Refute it at one input. -/
def fnPartsValidAcceptsRotationsRefusesFaultsWrong : ChangeSpec := { name := "fnPartsValidAcceptsRotationsRefusesFaults", fn := fun _ => fun
  | [d1, d2, d3, d4, d5, d6, d7] => { results := [.lit (.bool false)], args := [d1, d2, d3, d4, d5, d6, d7] }
  | _ => none }
def FnPartsValidAcceptsRotationsRefusesFaultsWrongFalsely : Prop := fnPartsValidAcceptsRotationsRefusesFaultsRow.holds Try.pinned (OpenSpec.ofChange fnPartsValidAcceptsRotationsRefusesFaultsWrong)

/-- 'zzlaws_kv_b1.FnDropBelowTwiceIsOnceAtTheGreater': WHATEVER THE INPUT: true; the input reads as it did. -/
def fnDropBelowTwiceIsOnceAtTheGreaterSpec : ChangeSpec := { name := "fnDropBelowTwiceIsOnceAtTheGreater", fn := fun _ => fun
  | [d1, d2, d3, d4] => { results := [.lit (.bool true)], args := [d1, d2, d3, d4] }
  | _ => none }
def fnDropBelowTwiceIsOnceAtTheGreaterRow : OpenClaim := { program := "qxb6617896a", sum := "e9a68edff27d722486264e296840d33a2aa6f08ece5de4c80fa2af39d42d07a9", func := "example.com/quorumkeep/quorumkeep/zzlaws_kv_b1.FnDropBelowTwiceIsOnceAtTheGreater", spec := "fnDropBelowTwiceIsOnceAtTheGreater", unfollowed := true, recurses := true, apart := false }
def FnDropBelowTwiceIsOnceAtTheGreaterSaid : Prop := fnDropBelowTwiceIsOnceAtTheGreaterRow.holds Try.pinned (OpenSpec.ofChange fnDropBelowTwiceIsOnceAtTheGreaterSpec)

/-- ITS FALSE NEIGHBOUR: 'it returns false'. Refute it at one input. -/
def fnDropBelowTwiceIsOnceAtTheGreaterWrong : ChangeSpec := { name := "fnDropBelowTwiceIsOnceAtTheGreater", fn := fun _ => fun
  | [d1, d2, d3, d4] => { results := [.lit (.bool false)], args := [d1, d2, d3, d4] }
  | _ => none }
def FnDropBelowTwiceIsOnceAtTheGreaterWrongFalsely : Prop := fnDropBelowTwiceIsOnceAtTheGreaterRow.holds Try.pinned (OpenSpec.ofChange fnDropBelowTwiceIsOnceAtTheGreaterWrong)

/-- 'zzlaws_kv_b1.FnRecordMatchesModel': WHATEVER THE INPUT: true; the input reads as it did. -/
def fnRecordMatchesModelSpec : ChangeSpec := { name := "fnRecordMatchesModel", fn := fun _ => fun
  | [d] => { results := [.lit (.bool true)], args := [d] }
  | _ => none }
def fnRecordMatchesModelRow : OpenClaim := { program := "qxb6617896a", sum := "e9a68edff27d722486264e296840d33a2aa6f08ece5de4c80fa2af39d42d07a9", func := "example.com/quorumkeep/quorumkeep/zzlaws_kv_b1.FnRecordMatchesModel", spec := "fnRecordMatchesModel", unfollowed := true, recurses := true, apart := false }
def FnRecordMatchesModelSaid : Prop := fnRecordMatchesModelRow.holds Try.pinned (OpenSpec.ofChange fnRecordMatchesModelSpec)

/-- ITS FALSE NEIGHBOUR: 'it returns false'. Refute it at one input. -/
def fnRecordMatchesModelWrong : ChangeSpec := { name := "fnRecordMatchesModel", fn := fun _ => fun
  | [d] => { results := [.lit (.bool false)], args := [d] }
  | _ => none }
def FnRecordMatchesModelWrongFalsely : Prop := fnRecordMatchesModelRow.holds Try.pinned (OpenSpec.ofChange fnRecordMatchesModelWrong)

/-- 'zzlaws_kv_b1.FnRecordKeepsTheReplyItRecords': WHATEVER THE INPUT: true; the input reads as it did. -/
def fnRecordKeepsTheReplyItRecordsSpec : ChangeSpec := { name := "fnRecordKeepsTheReplyItRecords", fn := fun _ => fun
  | [d] => { results := [.lit (.bool true)], args := [d] }
  | _ => none }
def fnRecordKeepsTheReplyItRecordsRow : OpenClaim := { program := "qxb6617896a", sum := "e9a68edff27d722486264e296840d33a2aa6f08ece5de4c80fa2af39d42d07a9", func := "example.com/quorumkeep/quorumkeep/zzlaws_kv_b1.FnRecordKeepsTheReplyItRecords", spec := "fnRecordKeepsTheReplyItRecords", unfollowed := true, recurses := true, apart := false }
def FnRecordKeepsTheReplyItRecordsSaid : Prop := fnRecordKeepsTheReplyItRecordsRow.holds Try.pinned (OpenSpec.ofChange fnRecordKeepsTheReplyItRecordsSpec)

/-- ITS FALSE NEIGHBOUR: 'it returns false'. Refute it at one input. -/
def fnRecordKeepsTheReplyItRecordsWrong : ChangeSpec := { name := "fnRecordKeepsTheReplyItRecords", fn := fun _ => fun
  | [d] => { results := [.lit (.bool false)], args := [d] }
  | _ => none }
def FnRecordKeepsTheReplyItRecordsWrongFalsely : Prop := fnRecordKeepsTheReplyItRecordsRow.holds Try.pinned (OpenSpec.ofChange fnRecordKeepsTheReplyItRecordsWrong)

/-- 'zzlaws_kv_b1.FnDropBelowMatchesModel': WHATEVER THE INPUT: true; the input reads as it did. -/
def fnDropBelowMatchesModelSpec : ChangeSpec := { name := "fnDropBelowMatchesModel", fn := fun _ => fun
  | [d1, d2, d3] => { results := [.lit (.bool true)], args := [d1, d2, d3] }
  | _ => none }
def fnDropBelowMatchesModelRow : OpenClaim := { program := "qxb6617896a", sum := "e9a68edff27d722486264e296840d33a2aa6f08ece5de4c80fa2af39d42d07a9", func := "example.com/quorumkeep/quorumkeep/zzlaws_kv_b1.FnDropBelowMatchesModel", spec := "fnDropBelowMatchesModel", unfollowed := true, recurses := true, apart := false }
def FnDropBelowMatchesModelSaid : Prop := fnDropBelowMatchesModelRow.holds Try.pinned (OpenSpec.ofChange fnDropBelowMatchesModelSpec)

/-- ITS FALSE NEIGHBOUR: 'it returns false'. Refute it at one input. -/
def fnDropBelowMatchesModelWrong : ChangeSpec := { name := "fnDropBelowMatchesModel", fn := fun _ => fun
  | [d1, d2, d3] => { results := [.lit (.bool false)], args := [d1, d2, d3] }
  | _ => none }
def FnDropBelowMatchesModelWrongFalsely : Prop := fnDropBelowMatchesModelRow.holds Try.pinned (OpenSpec.ofChange fnDropBelowMatchesModelWrong)

end Rows
end Go.Proofs.Qxb6617896a
