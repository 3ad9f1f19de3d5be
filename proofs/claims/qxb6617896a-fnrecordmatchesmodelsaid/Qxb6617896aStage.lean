import Derived.Test.Qxb6617896aDrop
namespace Go.Proofs.Qxb6617896a
open Go.ChangeShapes Go.WideShapes Go.ChangeAt Go.RowKit
open Go.Maps (Keyed)

theorem dropE_succ (es : List Ent) (c : ByteArray) (s : Int) : dropE es c (s + 1) = delE (dropE es c s) c s := by
  unfold dropE delE
  rw [List.filter_filter]
  refine List.filter_congr (fun e _ => ?_)
  by_cases h1 : e.c = c
  · by_cases h2 : e.seq < s
    · have : e.seq < s + 1 := by omega
      simp [h1, h2, this]
    · by_cases h3 : e.seq = s
      · simp [h1, h3]
        omega
      · have : ¬ e.seq < s + 1 := by omega
        simp [h1, h2, h3, this]
  · simp [h1]

theorem dropE_low {es : List Ent} {c : ByteArray} {low : Int} (h : ∀ e ∈ es, e.c = c → low ≤ e.seq) : dropE es c low = es := by
  unfold dropE
  rw [List.filter_eq_self]
  intro e he
  by_cases h1 : e.c = c
  · have := h e he h1
    have : ¬ e.seq < low := by omega
    simp [this]
  · simp [h1]

theorem len_le_bytesE {es : List Ent} {e : Ent} (h : e ∈ es) : (e.val.length : Int) ≤ bytesE es := by
  induction es with
  | nil => cases h
  | cons a r ih =>
    rw [bytesE_cons]
    have := bytesE_nonneg r
    rcases List.mem_cons.1 h with e' | h'
    · subst e'; omega
    · have := ih h'; omega

theorem bytesE_filter_le (es : List Ent) (p : Ent → Bool) : bytesE (es.filter p) ≤ bytesE es := by
  induction es with
  | nil => simp
  | cons a r ih =>
    rw [List.filter_cons, bytesE_cons]
    split
    · rw [bytesE_cons]; omega
    · omega

theorem cnt_le_length (es : List Ent) (c : ByteArray) : cnt es c ≤ es.length := List.length_filter_le _ _

/-- What the second loop has left. -/
def Left (es es' : List Ent) (c : ByteArray) (low : Int) (left : Lit → Bool) : Prop :=
  ∃ p : Ent → Bool, es' = es.filter p ∧ (∀ e, p e = false → e.c = c ∧ e.seq < low) ∧ ∀ e ∈ es', e.c = c → e.seq < low → left (ik e.seq) = true

theorem Left.done {es es' : List Ent} {c : ByteArray} {low : Int} {left : Lit → Bool} (h : Left es es' c low left) (hl : ∀ x, left x = false) : es' = dropE es c low := by
  obtain ⟨p, rfl, hp, hq⟩ := h
  unfold dropE
  refine List.filter_congr (fun e he => ?_)
  cases hpe : p e with
  | false => simp [hp e hpe]
  | true =>
    by_cases h1 : e.c = c ∧ e.seq < low
    · have := hq e (List.mem_filter.2 ⟨he, hpe⟩) h1.1 h1.2
      rw [hl] at this
      cases this
    · simp only [h1, decide_false, Bool.not_false]

theorem ik_same {s t : Int} : (ik s).sameKey (ik t) = decide (s = t) := by
  by_cases h : s = t
  · subst h
    rw [WideAt.sameKey_self (ik_key _)]
    simp
  · rw [Maps.sameKey_ne (fun e => h (ik_inj e))]
    simp [h]

theorem Left.pass {es es' : List Ent} {c : ByteArray} {low s : Int} {left : Lit → Bool} (h : Left es es' c low left) (hs : ¬ s < low) : Left es es' c low (fun z => left z && !z.sameKey (ik s)) := by
  obtain ⟨p, rfl, hp, hq⟩ := h
  refine ⟨p, rfl, hp, fun e he h1 h2 => ?_⟩
  have : ¬ e.seq = s := by omega
  simp only [ik_same, this, decide_false, Bool.not_false, Bool.and_true]
  exact hq e he h1 h2

theorem Left.del {es es' : List Ent} {c : ByteArray} {low s : Int} {left : Lit → Bool} (h : Left es es' c low left) (hs : s < low) : Left es (delE es' c s) c low (fun z => left z && !z.sameKey (ik s)) := by
  obtain ⟨p, rfl, hp, hq⟩ := h
  refine ⟨fun e => !decide (e.c = c ∧ e.seq = s) && p e, by unfold delE; rw [List.filter_filter], fun e he => ?_, fun e he h1 h2 => ?_⟩
  · simp only [Bool.and_eq_false_iff, Bool.not_eq_false', decide_eq_true_eq] at he
    rcases he with ⟨h1, h2⟩ | h1
    · exact ⟨h1, by omega⟩
    · exact hp e h1
  · unfold delE at he
    obtain ⟨h3, h4⟩ := List.mem_filter.1 he
    simp only [Bool.not_eq_true', decide_eq_false_iff_not] at h4
    have : ¬ e.seq = s := fun e' => h4 ⟨h1, e'⟩
    simp only [ik_same, this, decide_false, Bool.not_false, Bool.and_true]
    exact hq e h3 h1 h2

section
variable {w w' : World} {rb : Nat} {S Vb : Nat → Prop} {es : List Ent} {hs : List Hold} {B : Int} {N bk bf : Nat} {blk : ByteArray → Nat}

theorem Rep.carryB (h : Rep w rb S Vb es hs B N bk bf blk) (hz : w.heap.size ≤ w'.heap.size) (hk : ∀ k, (k = rb ∨ k = bk ∨ k = bf ∨ (∃ c, (holdOf hs c).isSome ∧ k = blk c) ∨ Vb k) → k < w.heap.size → w'.heap[k]? = w.heap[k]?) : Rep w' rb S Vb es hs B N bk bf blk := by
  obtain ⟨fk, hm, hf⟩ := h.kept
  obtain ⟨ff, nf, hm2, hn, hf2⟩ := h.flo
  exact ⟨(hk rb (.inl rfl) h.ltR).trans h.str, ⟨fk, hm.of_block (hk bk (.inr (.inl rfl)) hm.lt), hf⟩, fun c hc => (h.inner c hc).carry hz (hk _ (.inr (.inr (.inr (.inl ⟨c, hc, rfl⟩)))) (h.ltI hc)) (fun k hv hl => hk k (.inr (.inr (.inr (.inr hv)))) hl),
    ⟨ff, nf, hm2.of_block (hk bf (.inr (.inr (.inl rfl))) hm2.lt), hn, hf2⟩, h.sR, h.sK, h.sF, h.sI, h.dKF, h.dIK, h.dIF, h.dI⟩

/-- A block above all of it turned. -/
theorem Rep.grown (h : Rep w rb S Vb es hs B N bk bf blk) {r : Nat} (hg : w.grownBy w' (some r)) (hr : rb < r) (hk : bk < r) (hf : bf < r) (hi : ∀ c, (holdOf hs c).isSome → blk c < r) (hv : ¬ Vb r) : Rep w' rb S Vb es hs B N bk bf blk := by
  refine h.carryB hg.size (fun k hx hl => hg.block k hl ?_)
  intro e
  have e := Option.some.inj e
  subst e
  rcases hx with h1 | h1 | h1 | ⟨c, h1, h2⟩ | h1
  · omega
  · omega
  · omega
  · have := hi c h1; omega
  · exact hv h1

theorem Rep.ltK (h : Rep w rb S Vb es hs B N bk bf blk) : bk < w.heap.size := by obtain ⟨_, hm, _⟩ := h.kept; exact hm.lt
theorem Rep.ltF (h : Rep w rb S Vb es hs B N bk bf blk) : bf < w.heap.size := by obtain ⟨_, _, hm, _⟩ := h.flo; exact hm.lt
end

theorem Tch.grown {S : Nat → Prop} {a w w' : World} (h : Tch S a w) {r : Nat} (hg : w.grownBy w' (some r)) (hS : ∀ k, w.heap.size ≤ k → S k) (hr : S r) : Tch S a w' :=
  h.trans ⟨hg.os, hg.tape, hg.output, hg.size, fun k hk => by
    by_cases hl : k < w.heap.size
    · exact hg.block k hl (fun e => hk (Option.some.inj e ▸ hr))
    · exact absurd (hS k (by omega)) hk⟩

theorem RangeIs.alloc {w : World} {b r n : Nat} {K : TypeId} {f : Lit → Option Value} {left : Lit → Bool} {cn : Nat} (h : RangeIs w b K r f n left cn) (o : Obj) : RangeIs (w.alloc o) b K r f n left cn :=
  h.kept (Below.heap_alloc _ _ _ h.owns.lt) (Below.heap_alloc _ _ _ h.lt)

def mkU (x : Int) : Value := .int .u64 x
def mkKept (y : Int × Option Addr × Nat × Nat) : Value := .agg #[.int .u64 y.1, .slice y.2.1 y.2.2.1 y.2.2.2]

end Go.Proofs.Qxb6617896a
