import Derived.Test.Qxb6618131aFields
import Derived.Deep.Slices
import Derived.Deep.Grids
import Derived.OpenShut
import Derived.ShutString
import Derived.ChangeOld
import Derived.Below
import Derived.SliceStrings
namespace Go.Proofs.Qxb6618131a
open Go.ChangeShapes Go.WideShapes Go.ChangeAt Go.RowKit

theorem own : ownKnob Try.prog.godebug = none := by kernel_rfl
theorem laidOut : laidOutB Try.prog = true := by kernel_rfl

theorem cell_lt {w : World} {a : Addr} {v : Value} (h : w.cell? a = some v) : a.block < w.heap.size := by
  rcases Nat.lt_or_ge a.block w.heap.size with h' | h'
  · exact h'
  · have e : w.heap[a.block]? = none := Array.getElem?_eq_none h'
    simp [World.cell?, e] at h

theorem Sl.of_cells {w : World} {x : Addr} {n c : Nat} {V : Nat → Value} (hl : n ≤ c) (hm : c ≤ maxLen) (hcell : ∀ i, i < n → w.cell? (x.add i) = some (V i)) : Sl w (some x) n c V := by
  refine ⟨hl, hm, fun hn => ?_⟩
  have h0 := hcell 0 hn
  obtain ⟨b, off, spot⟩ := x
  have hspot : spot = none := by simpa [Addr.add] using World.cell?_spot h0
  subst hspot
  refine ⟨b, off, rfl, ?_, fun i hi => ?_⟩
  · have := cell_lt h0
    simpa [Addr.add] using this
  · rw [← add_plain]
    exact hcell i hi

section
variable {H : Type} {enc : TypeId × Value → H} {W : World}

theorem sl_bools {a : Option Addr} {n c : Nat} {d : DataW H} {p : List MemPlace} (h : DataW.Trod enc Try.prog W 0 (fun _ => true) true 29 (.slice a n c) d p) : ∃ D : Nat → Bool, Sl W a n c (fun i => .bool (D i)) := by
  obtain ⟨fuel, hf⟩ := h
  rcases Deep.open_bools Try.underlying29 Try.underlying4 (by kernel_rfl) hf with ⟨hcs, _⟩ | ⟨x, l, c', B, hcs, _, hl, hm, _, hcell⟩
  · simp [Value.cells] at hcs
    obtain ⟨rfl, rfl, rfl⟩ := hcs
    exact ⟨fun _ => false, Sl.of_nil⟩
  · simp [Value.cells] at hcs
    obtain ⟨rfl, rfl, rfl⟩ := hcs
    exact ⟨B, Sl.of_cells hl hm fun i hi => hcell i (by omega)⟩

theorem sl_strs {a : Option Addr} {n c : Nat} {d : DataW H} {p : List MemPlace} (h : DataW.Trod enc Try.prog W 0 (fun _ => true) true 22 (.slice a n c) d p) : ∃ S : Nat → ByteArray, Sl W a n c (fun i => .string (S i)) := by
  obtain ⟨fuel, hf⟩ := h
  rcases open_strings Try.underlying22 Try.underlying9 (by kernel_rfl) hf with ⟨hcs, _⟩ | ⟨x, l, c', ss, hcs, _, hl, hm, hz, _, hcell, hws⟩
  · simp [Value.cells] at hcs
    obtain ⟨rfl, rfl, rfl⟩ := hcs
    exact ⟨fun _ => ByteArray.empty, Sl.of_nil⟩
  · simp [Value.cells] at hcs
    obtain ⟨rfl, rfl, rfl⟩ := hcs
    exact ⟨fun i => ss.getD i ByteArray.empty, Sl.of_cells hl hm fun i hi => hcell i (by simp at hz; omega)⟩

theorem trod_places_lt {t : TypeId} {v : Value} {d : DataW H} {p : List MemPlace} (h : DataW.Trod enc Try.prog W 0 (fun _ => true) true t v d p) : ∀ x ∈ p, x.block < W.heap.size := by
  obtain ⟨m, hm⟩ := h
  exact DataW.trod_lt m _ _ _ hm
end
end Go.Proofs.Qxb6618131a
