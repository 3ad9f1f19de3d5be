import Derived.Test.Qxb6617896aOf
import Derived.OpenShut
import Derived.ShutString
import Derived.ChangeOld
import Derived.SliceStrings
import Derived.Deep.Slices
namespace Go.Proofs.Qxb6617896a
open Go.ChangeShapes Go.WideShapes Go.ChangeAt Go.RowKit

/-- One RecordStep. -/
structure Stp where
  c : ByteArray
  seq : Int
  low : Int
  idx : Int
  val : List Int
  deriving Inhabited

structure StpOk (T : Stp) : Prop where
  c : T.c.size ≤ maxLen
  s0 : 0 ≤ T.seq
  s1 : T.seq ≤ 18446744073709551615
  l0 : 0 ≤ T.low
  l1 : T.low ≤ 18446744073709551615
  i0 : 0 ≤ T.idx
  i1 : T.idx ≤ 18446744073709551615

/-- The five cells of a step. -/
def FiveAt (w : World) (b o : Nat) (T : Stp) (a : Option Addr) (k : Nat) : Prop :=
  w.cell? ⟨b, o, none⟩ = some (.string T.c) ∧ w.cell? ⟨b, o + 1, none⟩ = some (.int .u64 T.seq) ∧ w.cell? ⟨b, o + 2, none⟩ = some (.int .u64 T.low) ∧ w.cell? ⟨b, o + 3, none⟩ = some (.int .u64 T.idx) ∧ w.cell? ⟨b, o + 4, none⟩ = some (.slice a T.val.length k)

/-- A slice of steps. -/
def StepsAt (w : World) (a : Option Addr) (n c : Nat) (T : Nat → Stp) (A : Nat → Option Addr) (K : Nat → Nat) : Prop :=
  n ≤ c ∧ c ≤ maxLen ∧ (∀ i, i < n → StpOk (T i)) ∧ (∀ i, i < n → Sl w (A i) (T i).val.length (K i) (fun j => .int .u8 ((T i).val.getD j 0))) ∧
    (0 < n → ∃ b off, a = some ⟨b, off, none⟩ ∧ b < w.heap.size ∧ ∀ i, i < n → FiveAt w b (off + i * 5) (T i) (A i) (K i))

theorem u64_range {x : Int} (h : (Lit.int .u64 x).wf = true) : 0 ≤ x ∧ x ≤ 18446744073709551615 := by
  simp [Lit.wf, IntKind.min, IntKind.max, IntKind.bits, IntKind.signed] at h
  omega

section
variable {H : Type} {enc : TypeId × Value → H} {W : World}

theorem bytes_open {fuel : Nat} {v : Value} {x : DataW H × List MemPlace} (h : DataW.trod enc Try.prog W 0 (fun _ => true) true fuel 45 [v] = some x) : ∃ (a : Option Addr) (l : List Int) (k : Nat), v = .slice a l.length k ∧ Sl W a l.length k (fun j => .int .u8 (l.getD j 0)) := by
  rcases open_ints Try.underlying45 Try.underlying5 (by kernel_rfl) h with ⟨hcs, _⟩ | ⟨y, l, c', zs, hcs, _, hl, hm, hz, _, hcell, hwz⟩
  · simp at hcs
    subst hcs
    exact ⟨none, [], 0, rfl, Nat.le_refl _, by unfold maxLen; omega, fun h => absurd h (by simp)⟩
  · simp at hcs
    subst hcs
    simp at hz
    have htl : (zs.take l).length = l := by rw [List.length_take]; omega
    refine ⟨some y, zs.take l, c', by rw [htl], by rw [htl]; exact hl, hm, fun hn => ?_⟩
    rw [htl] at hn ⊢
    have h0 := hcell 0 (by omega)
    obtain ⟨b, off, spot⟩ := y
    have hspot : spot = none := by simpa [Addr.add] using World.cell?_spot h0
    subst hspot
    refine ⟨b, off, rfl, ?_, fun i hi => ?_⟩
    · exact cell_lt (by simpa [Addr.add] using h0)
    · have := hcell i (by omega)
      rw [add_plain] at this
      rw [this]
      simp [List.getD, hi]

theorem steps_open {a : Option Addr} {n c : Nat} {d : DataW H} {p : List MemPlace} (h : DataW.Trod enc Try.prog W 0 (fun _ => true) true 36 (.slice a n c) d p) : ∃ T A K, StepsAt W a n c T A K := by
  obtain ⟨fuel, hf⟩ := h
  rcases Deep.open_slice Try.underlying36 hf with ⟨hcs, _⟩ | ⟨x, l, c', m, q, D, Pl, hcs, _, hl, hm, hmm, _, hx⟩
  · simp [Value.cells] at hcs
    obtain ⟨rfl, rfl, rfl⟩ := hcs
    exact ⟨fun _ => default, fun _ => none, fun _ => 0, Nat.le_refl _, by unfold maxLen; omega, fun i hi => absurd hi (by omega), fun i hi => absurd hi (by omega), fun h => absurd h (by omega)⟩
  · simp [Value.cells] at hcs
    obtain ⟨rfl, rfl, rfl⟩ := hcs
    have ce : Try.prog.cellsOf 51 = 5 := by kernel_rfl
    have hml : n ≤ m := by rw [hmm]; simp; omega
    have each : ∀ i, i < n → ∃ y : Stp × Option Addr × Nat, StpOk y.1 ∧ Sl W y.2.1 y.1.val.length y.2.2 (fun j => .int .u8 (y.1.val.getD j 0)) ∧ ∀ b off, x = ⟨b, off, none⟩ → FiveAt W b (off + i * 5) y.1 y.2.1 y.2.2 := by
      intro i hi
      obtain ⟨cs', h1, h2⟩ := hx i (by omega)
      rw [ce] at h1
      obtain ⟨_, hlen, hcell⟩ := World.cells?_some h1
      obtain ⟨xs, k, hk, hxy, _, hxl, hf⟩ := DataW.trod_struct Try.underlying51 h2
      match xs, hxl, cs', hlen with
      | [y0, y1, y2, y3, y4], _, [v0, v1, v2, v3, v4], _ =>
        have c9 : Try.prog.cellsOf 9 = 1 := by kernel_rfl
        have c31 : Try.prog.cellsOf 31 = 1 := by kernel_rfl
        have c45 : Try.prog.cellsOf 45 = 1 := by kernel_rfl
        have g0 := hf 0 _ rfl
        have g1 := hf 1 _ rfl
        have g2 := hf 2 _ rfl
        have g3 := hf 3 _ rfl
        have g4 := hf 4 _ rfl
        simp [c9, c31, c45] at g0 g1 g2 g3 g4
        obtain ⟨s0, e0, _, r0⟩ := DataW.trod_string Try.underlying9 g0
        obtain ⟨s1, e1, _, r1⟩ := DataW.trod_int Try.underlying31 g1
        obtain ⟨s2, e2, _, r2⟩ := DataW.trod_int Try.underlying31 g2
        obtain ⟨s3, e3, _, r3⟩ := DataW.trod_int Try.underlying31 g3
        obtain ⟨a4, l4, k4, e4, r4⟩ := bytes_open g4
        simp at e0 e1 e2 e3
        subst e0 e1 e2 e3 e4
        have r1 := u64_range r1
        have r2 := u64_range r2
        have r3 := u64_range r3
        refine ⟨(⟨s0, s1, s2, s3, l4⟩, a4, k4), ⟨r0, r1.1, r1.2, r2.1, r2.2, r3.1, r3.2⟩, r4, fun b off hxe => ?_⟩
        subst hxe
        have q0 := hcell 0 (by omega)
        have q1 := hcell 1 (by omega)
        have q2 := hcell 2 (by omega)
        have q3 := hcell 3 (by omega)
        have q4 := hcell 4 (by omega)
        simp only [add_plain] at q0 q1 q2 q3 q4
        exact ⟨by simpa using q0, by simpa using q1, by simpa using q2, by simpa using q3, by simpa using q4⟩
    obtain ⟨y, hy⟩ := Deep.choose_lt each
    refine ⟨fun i => (y i).1, fun i => (y i).2.1, fun i => (y i).2.2, hl, hm, fun i hi => (hy i hi).1, fun i hi => (hy i hi).2.1, fun hn => ?_⟩
    obtain ⟨cs', h1, h2⟩ := hx 0 (by omega)
    rw [ce] at h1
    obtain ⟨_, hlen, hcell⟩ := World.cells?_some h1
    have q0 := hcell 0 (by omega)
    rw [List.getElem?_eq_getElem (by omega)] at q0
    obtain ⟨b, off, spot⟩ := x
    have hspot : spot = none := by simpa [Addr.add] using World.cell?_spot q0
    subst hspot
    refine ⟨b, off, rfl, ?_, fun i hi => (hy i hi).2.2 b off rfl⟩
    exact cell_lt ((hy 0 hn).2.2 b off rfl).1
end
end Go.Proofs.Qxb6617896a
