import Derived.Test.Qxb6617896aSteps
import Derived.Below
namespace Go.Proofs.Qxb6617896a
open Go.ChangeShapes Go.WideShapes Go.ChangeAt Go.RowKit

theorem own : ownKnob Try.prog.godebug = none := by kernel_rfl
theorem laidOut : laidOutB Try.prog = true := by kernel_rfl

section
variable {H : Type} {enc : TypeId × Value → H} {W : World}
theorem trod_places_lt {t : TypeId} {v : Value} {d : DataW H} {p : List MemPlace} (h : DataW.Trod enc Try.prog W 0 (fun _ => true) true t v d p) : ∀ x ∈ p, x.block < W.heap.size := by
  obtain ⟨m, hm⟩ := h
  exact DataW.trod_lt m _ _ _ hm
end
end Go.Proofs.Qxb6617896a
