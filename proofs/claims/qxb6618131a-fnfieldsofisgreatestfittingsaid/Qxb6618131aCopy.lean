import Derived.Test.Qxb6618131aFields
import Derived.Laws.CopyOwn
namespace Go.Proofs.Qxb6618131a
open Go.ChangeShapes Go.WideShapes Go.ChangeAt Go.RowKit

theorem Try.info9 : (Try.prog.info? 9).map (fun i => (i.zero, i.size, i.bytes)) = some (some (.string ⟨#[]⟩), 1, 16) := by kernel_rfl
theorem Try.size9 : (Try.prog.info? 9).map (·.size) = some 1 := by kernel_rfl

theorem Sl.of_row {w : World} {B t n : Nat} {f : Nat → Value} (hn : n ≤ 1048577) (h : w.rowIs B t n f) : Sl w (some ⟨B, 0, none⟩) n n f :=
  ⟨Nat.le_refl _, by unfold maxLen; omega, fun _ => ⟨B, 0, rfl, h.lt, fun i hi => by rw [Nat.zero_add]; exact h.cell hi⟩⟩

/-- 'copy(dst, src)' where dst is a row of the call's own, as long as src: the row then holds what src holds. -/
theorem wpList_copy_fresh {P : Program} {w : World} {ops : Array Oper} {rest : List Oper} {o : Oper} {a : Act} {Q : Exit → Act → World → Prop} (hgd : o.guard = none) (d s : Operand) (dT sT : TypeId)
    (ho : o.op = .call { callee := .builtin .copy, args := #[d, s], argTypes := #[dT, sT] }) (elem : TypeId) (hu : P.underlying dT = some (.slice elem)) (hsz : (P.info? elem).map (·.size) = some 1)
    (g n : Nat) (sp : Option Addr) (sc : Nat) (hd : a.eval d = .slice (some ⟨g, 0, none⟩) n n) (hs : a.eval s = .slice sp n sc)
    (V f : Nat → Value) (t : TypeId) (hrow : w.rowIs g t n f) (hsl : Sl w sp n sc V) (h1 : ∀ i, (V i).oneCell' = true) (B : Nat) (w0 : World) (hb : Below B w0 w) (hBg : B ≤ g)
    (h : ∀ w', w'.rowIs g t n V → Below B w0 w' → wpList P ops Q rest (a.put o.dst (goInt n)) w') :
    wpList P ops Q (o :: rest) a w := by
  obtain ⟨cur, hg, hsz2, hf⟩ := hrow
  refine wpList_copy_splice hgd d s dT sT ho elem hu hsz _ _ n n n sc hd hs g 0 cur.toList t (by simpa using hg) ((List.range n).map V) (by simp) (fun hp => ⟨rfl, ?_⟩) (by simp; omega) (fun v hv => ?_) B w0 hb hBg (fun w' hg' hb' => ?_)
  · simp at hp
    obtain ⟨b, off, rfl, _, hc⟩ := hsl.2.2 (by omega)
    refine ⟨_, rfl, fun j v hj => ?_⟩
    rw [add_plain]
    have hjn : j < n := by
      have := (List.getElem?_eq_some_iff.1 hj).1
      simpa using this
    have e : V j = v := by simpa [hjn] using hj
    rw [← e]
    exact hc j hjn
  · simp at hv
    obtain ⟨i, _, rfl⟩ := hv
    exact h1 i
  · have e : (splice cur.toList 0 ((List.range n).map V)) = (List.range n).map V := by
      unfold splice
      rw [List.drop_eq_nil_of_le (by simp; omega)]
      simp
    have hl : ((List.range n).map V).length = n := by simp
    rw [hl]
    refine h w' ⟨((List.range n).map V).toArray, ?_, by simp, fun i hi => by simp [hi]⟩ hb'
    have := hg'.out
    rw [e] at this
    exact this

end Go.Proofs.Qxb6618131a
