import Derived.Test.Qxb6617896aTwo
namespace Go.Proofs.Qxb6617896a
open Go.ChangeShapes Go.WideShapes Go.ChangeAt Go.RowKit

/-- What was looked up lies in the box x1. -/
def LookIn (w6 wx : World) (x1 : Nat) (x : Option Ent) : Prop :=
  ∃ a1 c1, wx.cell? ⟨x1, 0, none⟩ = some (.int .u64 (idxOf x)) ∧ wx.cell? ⟨x1, 1, none⟩ = some (.slice a1 (valOf x).length c1) ∧ Sl wx a1 (valOf x).length c1 (fun i => .int .u8 ((valOf x).getD i 0)) ∧ Below w6.heap.size w6 wx ∧ x1 < wx.heap.size

theorem LookIn.below {w6 wx w' : World} {x1 : Nat} {x : Option Ent} (h : LookIn w6 wx x1 x) (hb : Below wx.heap.size wx w') : LookIn w6 w' x1 x := by
  obtain ⟨a1, c1, h0, h1, h2, h3, h4⟩ := h
  exact ⟨a1, c1, (hb.cell (p := ⟨x1, 0, none⟩) h4).trans h0, (hb.cell (p := ⟨x1, 1, none⟩) h4).trans h1, h2.below hb, h3.trans (hb.mono h3.size), Nat.lt_of_lt_of_le h4 hb.size⟩

theorem LookIn.end1 {w6 w7 : World} {x : Option Ent} {a1 : Option Addr} {c1 : Nat} (hb : Below w6.heap.size w6 w7) (hs : Sl w7 a1 (valOf x).length c1 (fun i => .int .u8 ((valOf x).getD i 0))) : LookIn w6 (w7.alloc (.cells #[.int .u64 (idxOf x), .slice a1 (valOf x).length c1] 47)) w7.heap.size x := by
  exact ⟨a1, c1, by simp, by simp, hs.below ((Below.refl _ _).alloc (Nat.le_refl _) _), hb.alloc hb.size _, by simp⟩

theorem Sl.other {w w' : World} {a : Option Addr} {l : List Int} {c B : Nat} (h : Sl w a l.length c (fun i => .int .u8 (l.getD i 0))) (hz : w.heap.size ≤ w'.heap.size) (hk : ∀ k, k ≠ B → w'.heap[k]? = w.heap[k]?) (h0 : ∀ o x, w.cell? ⟨B, o, none⟩ ≠ some (.int .u8 x)) : Sl w' a l.length c (fun i => .int .u8 (l.getD i 0)) := by
  refine ⟨h.1, h.2.1, fun hn => ?_⟩
  obtain ⟨b, off, ha, hb, hc⟩ := h.2.2 hn
  have hne : b ≠ B := fun e => by subst e; exact h0 _ _ (hc 0 hn)
  exact ⟨b, off, ha, Nat.lt_of_lt_of_le hb hz, fun i hi => (World.cell?_of_block (w := w) (hk b hne)).trans (hc i hi)⟩

theorem box_no_u8 {w : World} {B : Nat} {i : Int} {v : Option Addr} {m n : Nat} (h : w.heap[B]? = some (.cells #[.int .u64 i, .slice v m n] 47 (0, 0))) (o : Nat) (x : Int) : w.cell? ⟨B, o, none⟩ ≠ some (.int .u8 x) := by
  intro e
  simp [World.cell?, h] at e
  match o with
  | 0 => simp at e
  | 1 => simp at e
  | o + 2 => simp at e

def box0 : Obj := .cells #[.int .u64 0, .slice none 0 0] 47

theorem LookIn.end2 {w6 w7 : World} {x : Option Ent} {a1 : Option Addr} {c1 : Nat} (hb7 : Below (w6.alloc box0).heap.size (w6.alloc box0).drew w7) (hs : Sl w7 a1 (valOf x).length c1 (fun i => .int .u8 ((valOf x).getD i 0))) :
    LookIn w6 ((w7.setCell ⟨w6.heap.size, 0, none⟩ (.int .u64 (idxOf x))).setCell ⟨w6.heap.size, 1, none⟩ (.slice a1 (valOf x).length c1)) w6.heap.size x := by
  have hblk : w7.heap[w6.heap.size]? = some (.cells #[.int .u64 0, .slice none 0 0] 47 (0, 0)) := (hb7.block w6.heap.size (by simp)).trans (heap_alloc_new w6 _)
  have hl : w6.heap.size < w7.heap.size := (Array.getElem?_eq_some_iff.1 hblk).1
  have hb : Below w6.heap.size w6 w7 := ((Below.refl _ _).alloc (Nat.le_refl _) box0).drew.trans (hb7.mono (by simp))
  refine ⟨a1, c1, ?_, ?_, ?_, (hb.setCell (Nat.le_refl _) _).setCell (Nat.le_refl _) _, by simp [World.setCell]; exact hl⟩
  · rw [World.cell?_setCell_other]
    · exact World.cell?_setCell_same _ _ _ (u := .int .u64 0) (by simp [World.cell?, hblk])
    · simp
  · refine World.cell?_setCell_same _ _ _ (u := .slice none 0 0) ?_
    rw [World.cell?_setCell_other]
    · simp [World.cell?, hblk]
    · simp
  · refine hs.other (B := w6.heap.size) (by simp [World.setCell]) (fun k hk => ?_) (box_no_u8 hblk)
    rw [Below.heap_setCell _ _ _ _ hk, Below.heap_setCell _ _ _ _ hk]
end Go.Proofs.Qxb6617896a
