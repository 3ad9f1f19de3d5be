import Derived.Test.Qxb6617896aKeep
import Derived.Test.Qxb6617896aOld
namespace Go.Proofs.Qxb6617896a
open Go.ChangeShapes Go.WideShapes Go.ChangeAt Go.RowKit
open Go.Maps (Keyed)

def minusE (es : List Ent) (o : ByteArray) : List Ent := es.filter fun e => !decide (e.c = o)
def minusH (hs : List Hold) (o : ByteArray) : List Hold := hs.filter fun h => !decide (h.c = o)

theorem find_filter {α : Type} (l : List α) (p q : α → Bool) : (l.filter p).find? q = l.find? fun x => p x && q x := by
  induction l with
  | nil => rfl
  | cons a r ih =>
    rw [List.filter_cons]
    cases hp : p a <;> simp [List.find?_cons, hp, ih]

theorem holdOf_minusH (hs : List Hold) (o x : ByteArray) : holdOf (minusH hs o) x = if x = o then none else holdOf hs x := by
  unfold holdOf minusH
  rw [find_filter]
  by_cases e : x = o
  · subst e
    rw [if_pos rfl, List.find?_eq_none]
    intro h _
    by_cases h' : h.c = x <;> simp [h']
  · rw [if_neg e]
    congr 1
    funext h
    by_cases h' : h.c = x
    · subst h'; simp [e]
    · simp [h']

theorem findE_minusE (es : List Ent) (o x : ByteArray) (t : Int) : findE (minusE es o) x t = if x = o then none else findE es x t := by
  unfold findE minusE
  rw [find_filter]
  by_cases e : x = o
  · subst e
    rw [if_pos rfl, List.find?_eq_none]
    intro h _
    by_cases h' : h.c = x <;> simp [h']
  · rw [if_neg e]
    congr 1
    funext h
    by_cases h' : h.c = x
    · subst h'; simp [e]
    · simp [h']

theorem cnt_minusE (es : List Ent) {o x : ByteArray} (h : x ≠ o) : cnt (minusE es o) x = cnt es x := by
  unfold cnt minusE
  rw [List.filter_filter]
  congr 1
  refine List.filter_congr (fun e _ => ?_)
  by_cases h' : e.c = x
  · subst h'; simp [h]
  · simp [h']

theorem length_minusH : ∀ {hs : List Hold}, NodH hs → ∀ {o : ByteArray}, (holdOf hs o).isSome → (minusH hs o).length + 1 = hs.length
  | [], _, _, h => by simp [holdOf] at h
  | a :: r, hn, o, h => by
    unfold NodH at hn
    rw [List.pairwise_cons] at hn
    by_cases e : a.c = o
    · have : minusH (a :: r) o = r := by
        unfold minusH
        rw [List.filter_cons]
        simp only [e, decide_true, Bool.not_true, Bool.false_eq_true, if_false]
        rw [List.filter_eq_self]
        intro x hx
        have := hn.1 x hx
        rw [e] at this
        simp [Ne.symm this]
      rw [this]
      rfl
    · have hr : (holdOf r o).isSome := by
        unfold holdOf at h ⊢
        rw [List.find?_cons] at h
        simpa [e] using h
      have ih := length_minusH (hs := r) hn.2 hr
      have : minusH (a :: r) o = a :: minusH r o := by
        unfold minusH
        rw [List.filter_cons]
        simp [e]
      rw [this, List.length_cons, List.length_cons, ih]

section
variable {w w1 w2 : World} {rb : Nat} {S Vb : Nat → Prop} {es : List Ent} {hs : List Hold} {B : Int} {N bk bf : Nat} {blk : ByteArray → Nat}

/-- Only the floors and who is held count, not the ghost 'last'. -/
theorem Rep.setLast (h : Rep w rb S Vb es hs B N bk bf blk) (c : ByteArray) (x : Int) : Rep w rb S Vb es (setLast hs c x) B N bk bf blk := by
  obtain ⟨fk, hm, hf⟩ := h.kept
  obtain ⟨ff, nf, hm2, hn, hf2⟩ := h.flo
  refine ⟨h.str, ⟨fk, by rw [length_setLast]; exact hm, fun y => by rw [held_setLast]; exact hf y⟩, fun y hy => h.inner y (by rwa [held_setLast] at hy), ⟨ff, nf, hm2, hn, fun y => ?_⟩, h.sR, h.sK, h.sF, fun y hy => h.sI y (by rwa [held_setLast] at hy), h.dKF, fun y hy => h.dIK y (by rwa [held_setLast] at hy), fun y hy => h.dIF y (by rwa [held_setLast] at hy), fun y z hy hz => h.dI y z (by rwa [held_setLast] at hy) (by rwa [held_setLast] at hz)⟩
  rw [holdOf_setLast]
  have := hf2 y
  cases hh : holdOf hs y with
  | none => rw [hh] at this; simpa using this
  | some h0 =>
    rw [hh] at this
    simp only [Option.map_some]
    split
    · exact this
    · exact this

/-- One coordinator goes. -/
theorem Rep.evict (h : Rep w rb S Vb es hs B N bk bf blk) (hd : ∀ k, Vb k → ¬ S k) (hn : NodH hs) {o : ByteArray} (ho : (holdOf hs o).isSome) {fk : Lit → Option Value} (hfk : ∀ c, fk (sk c) = if (holdOf hs c).isSome then some (.map (some (blk c))) else none)
    {ff : Lit → Option Value} {nf : Nat} (hff : ∀ c, FlOk (ff (sk c)) (holdOf hs c)) (hnf : nf ≤ N)
    (hm1 : MapIs w1 bk 9 (upd fk (sk o) none) (delN fk (sk o) hs.length)) (ht1 : w.mapTurned w1 bk) (hm2 : MapIs w2 bf 9 (upd ff (sk o) none) (delN ff (sk o) nf)) (ht2 : w1.mapTurned w2 bf) :
    Rep w2 rb S Vb (minusE es o) (minusH hs o) B N bk bf blk := by
  have hb : ∀ k, k ≠ bk → k ≠ bf → w2.heap[k]? = w.heap[k]? := fun k h1 h2 => (turned_block ht2 h2).trans (turned_block ht1 h1)
  have hz : w.heap.size ≤ w2.heap.size := Nat.le_trans ht1.grown.size ht2.grown.size
  obtain ⟨_, hk0, _⟩ := h.kept
  obtain ⟨_, _, hf0, _⟩ := h.flo
  have hother : ∀ x, (holdOf (minusH hs o) x).isSome → x ≠ o ∧ (holdOf hs x).isSome := by
    intro x hx
    rw [holdOf_minusH] at hx
    by_cases e : x = o
    · rw [if_pos e] at hx; cases hx
    · rw [if_neg e] at hx; exact ⟨e, hx⟩
  have hv : ∀ k, Vb k → k < w.heap.size → w2.heap[k]? = w.heap[k]? := fun k hv _ => hb k (fun e => hd k hv (e ▸ h.sK)) (fun e => hd k hv (e ▸ h.sF))
  refine ⟨(hb rb (fun e => map_ne_str h hk0 e.symm) (fun e => map_ne_str h hf0 e.symm)).trans h.str, ⟨upd fk (sk o) none, ?_, fun x => ?_⟩, fun x hx => ?_, ⟨_, _, hm2, ?_, fun x => ?_⟩, h.sR, h.sK, h.sF, fun x hx => h.sI x (hother x hx).2, h.dKF, fun x hx => h.dIK x (hother x hx).2, fun x hx => h.dIF x (hother x hx).2, fun x y hx hy => h.dI x y (hother x hx).2 (hother y hy).2⟩
  · have : (minusH hs o).length = delN fk (sk o) hs.length := by
      unfold delN
      rw [hfk o, ho]
      have := length_minusH hn ho
      simp
      omega
    rw [this]
    exact hm1.of_block (turned_block ht2 h.dKF)
  · rw [holdOf_minusH]
    by_cases e : x = o
    · subst e; rw [upd_same _ (sk_key _)]; simp
    · rw [upd_other _ _ (fun e' => e (sk_inj e')), hfk x, if_neg e]
  · obtain ⟨h1, h2⟩ := hother x hx
    obtain ⟨fi, hmi, hfi⟩ := (h.inner x h2).carry hz (hb _ (h.dIK x h2) (h.dIF x h2)) hv
    refine ⟨fi, ?_, fun t => ?_⟩
    · rw [cnt_minusE es h1]; exact hmi
    · rw [findE_minusE, if_neg h1]; exact hfi t
  · unfold delN; split <;> omega
  · rw [holdOf_minusH]
    by_cases e : x = o
    · subst e; rw [upd_same _ (sk_key _), if_pos rfl]; rfl
    · rw [upd_other _ _ (fun e' => e (sk_inj e')), if_neg e]; exact hff x
end

end Go.Proofs.Qxb6617896a
