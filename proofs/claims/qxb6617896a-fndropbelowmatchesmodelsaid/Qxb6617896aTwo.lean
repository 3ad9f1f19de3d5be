import Derived.Test.Qxb6617896aShims
namespace Go.Proofs.Qxb6617896a
open Go.ChangeShapes Go.WideShapes Go.ChangeAt Go.RowKit

theorem beqS_true {a b : ByteArray} (h : a = b) : (a.toList == b.toList) = true := by rw [h]; simp
theorem beqS_false {a b : ByteArray} (h : a ≠ b) : (a.toList == b.toList) = false := by
  rw [beq_eq_false_iff_ne]
  intro e
  rw [ByteArray.toList_eq, ByteArray.toList_eq] at e
  apply h
  cases a
  cases b
  simpa using e

section
variable {w w' : World} {rb : Nat} {S Vb S' Vb' : Nat → Prop} {es : List Ent} {hs : List Hold} {B : Int} {N bk bf : Nat} {blk : ByteArray → Nat}

theorem SlV.re {a : Option Addr} {l : List Int} {c : Nat} (h : SlV w Vb a l.length c (fun i => .int .u8 (l.getD i 0))) (hv : ∀ k o x, Vb k → w.cell? ⟨k, o, none⟩ = some (.int .u8 x) → Vb' k) : SlV w Vb' a l.length c (fun i => .int .u8 (l.getD i 0)) := by
  refine ⟨h.1, h.2.1, fun hn => ?_⟩
  obtain ⟨b, off, ha, hb, hvb, hc⟩ := h.2.2 hn
  exact ⟨b, off, ha, hb, hv b _ _ hvb (hc 0 hn), hc⟩

/-- The sets are named anew. -/
theorem Rep.re (h : Rep w rb S Vb es hs B N bk bf blk) (hS : ∀ k, S k → k < w.heap.size → S' k) (hv : ∀ k o x, Vb k → w.cell? ⟨k, o, none⟩ = some (.int .u8 x) → Vb' k) : Rep w rb S' Vb' es hs B N bk bf blk := by
  refine ⟨h.str, h.kept, fun c hc => ?_, h.flo, hS _ h.sR h.ltR, hS _ h.sK ?_, hS _ h.sF ?_, fun c hc => hS _ (h.sI c hc) (h.ltI hc), h.dKF, h.dIK, h.dIF, h.dI⟩
  · obtain ⟨fi, hm, hf⟩ := h.inner c hc
    refine ⟨fi, hm, fun s => ⟨(hf s).1, fun e he => ?_⟩⟩
    obtain ⟨x, hx, a, c0, rfl, hs⟩ := (hf s).2 e he
    exact ⟨_, hx, a, c0, rfl, hs.re hv⟩
  · obtain ⟨_, hm, _⟩ := h.kept
    exact hm.lt
  · obtain ⟨_, _, hm, _⟩ := h.flo
    exact hm.lt

theorem RepX.re (h : RepX w rb S Vb es hs N) (hS : ∀ k, S k → k < w.heap.size → S' k) (hv : ∀ k o x, Vb k → w.cell? ⟨k, o, none⟩ = some (.int .u8 x) → Vb' k) : RepX w rb S' Vb' es hs N := by
  rcases h with ⟨h, h1, h2, h3⟩ | ⟨bk, bf, blk, h⟩
  · exact .inl ⟨h, hS _ h1 h.cells.2.2.2, h2, h3⟩
  · exact .inr ⟨bk, bf, blk, h.re hS hv⟩

theorem RepX.carry (h : RepX w rb S Vb es hs N) (hz : w.heap.size ≤ w'.heap.size) (hk : ∀ k, S k ∨ Vb k → k < w.heap.size → w'.heap[k]? = w.heap[k]?) : RepX w' rb S Vb es hs N := by
  rcases h with ⟨h, h1, h2, h3⟩ | ⟨bk, bf, blk, h⟩
  · exact .inl ⟨(hk rb (.inl h1) h.cells.2.2.2).trans h, h1, h2, h3⟩
  · exact .inr ⟨bk, bf, blk, h.carry hz hk⟩

theorem RepX.no_u8 (h : RepX w rb S Vb es hs N) (o : Nat) (x : Int) : w.cell? ⟨rb, o, none⟩ ≠ some (.int .u8 x) := by
  have key : ∀ a b, w.heap[rb]? = some (.cells #[.map a, .int .i64 b, .map a] 64 (0, 0)) → w.cell? ⟨rb, o, none⟩ ≠ some (.int .u8 x) := by
    intro a b hh e
    simp [World.cell?, hh] at e
    match o with
    | 0 => simp at e
    | 1 => simp at e
    | 2 => simp at e
    | o + 3 => simp at e
  have key2 : ∀ a b c, w.heap[rb]? = some (.cells #[.map a, .int .i64 b, .map c] 64 (0, 0)) → w.cell? ⟨rb, o, none⟩ ≠ some (.int .u8 x) := by
    intro a b c hh e
    simp [World.cell?, hh] at e
    match o with
    | 0 => simp at e
    | 1 => simp at e
    | 2 => simp at e
    | o + 3 => simp at e
  rcases h with ⟨h, _⟩ | ⟨bk, bf, blk, h⟩
  · exact key _ _ h
  · exact key2 _ _ _ h.str
end

/-- What a lookup hands back. -/
def idxOf : Option Ent → Int
  | none => 0
  | some y => y.idx
def valOf : Option Ent → List Int
  | none => []
  | some y => y.val

def LookD (w' : World) (x : Option Ent) (e : Ending) : Prop :=
  ∃ a cp, e = .returned (.tuple #[.agg #[.int .u64 (idxOf x), .slice a (valOf x).length cp], .bool x.isSome]) ∧ Sl w' a (valOf x).length cp (fun i => .int .u8 ((valOf x).getD i 0))

theorem cnt_zero {es : List Ent} {hs : List Hold} (hh : ∀ e ∈ es, (holdOf hs e.c).isSome) {c : ByteArray} (h : holdOf hs c = none) : cnt es c = 0 := by
  unfold cnt
  rw [List.length_eq_zero_iff, List.filter_eq_nil_iff]
  intro e he hc
  have := hh e he
  simp at hc
  rw [hc, h] at this
  cases this
theorem find_zero {es : List Ent} {hs : List Hold} (hh : ∀ e ∈ es, (holdOf hs e.c).isSome) {c : ByteArray} (s : Int) (h : holdOf hs c = none) : findE es c s = none :=
  findE_none.2 (fun e he hk => by
    have := hh e he
    rw [hk.1, h] at this
    cases this)

section
variable {rb : Nat} {S Vb : Nat → Prop} {es : List Ent} {hs : List Hold} {N : Nat}
theorem zzLook (c : ByteArray) (s : Int) (w : World) (hc : c.size ≤ maxLen) (hs0 : 0 ≤ s) (hs1 : s ≤ 18446744073709551615) (hh : ∀ e ∈ es, (holdOf hs e.c).isSome) (h : RepX w rb S Vb es hs N) :
    Calls Try.prog 23 #[.pointer (some ⟨rb, 0, none⟩), .string c, .int .u64 s] w fun e w' => LookD w' (findE es c s) e ∧ Below w.heap.size w w' := by
  refine (zzLookupOf c s w hc hs0 hs1 (find_zero hh s) h).mono ?_
  rintro e w' ⟨hl, hb⟩
  refine ⟨?_, hb⟩
  unfold LookV at hl
  cases hf : findE es c s with
  | none =>
    rw [hf] at hl
    exact ⟨none, 0, hl, Nat.le_refl _, by unfold maxLen; omega, fun h => absurd h (by simp [valOf])⟩
  | some y =>
    rw [hf] at hl
    obtain ⟨a, cp, he, hsl⟩ := hl
    exact ⟨a, cp, he, hsl.sl.below hb⟩
end

section
variable {r1 r2 : Nat} {S1 V1 S2 V2 : Nat → Prop} {es : List Ent} {hs : List Hold} {N1 N2 : Nat}
set_option maxRecDepth 100000 in
/-- zzSameHolder, of one state. -/
theorem zzSameHolder (c : ByteArray) (w : World) (hc : c.size ≤ maxLen) (hh : ∀ e ∈ es, (holdOf hs e.c).isSome) (h1 : RepX w r1 S1 V1 es hs N1) (h2 : RepX w r2 S2 V2 es hs N2) :
    Calls Try.prog 42 #[.pointer (some ⟨r1, 0, none⟩), .pointer (some ⟨r2, 0, none⟩), .string c] w fun e w' => e = .returned (.bool true) ∧ w' = w := by
  have H1 := hide h1
  have H2 := hide h2
  have HH := hide hh
  clear h1 h2 hh
  go_enter Try.func42, Try.ntmps42
  go_wp2_with fail
  refine (zzHoldsOf c w hc (cnt_zero HH.out) H1.out).mono ?_
  rintro e w1 ⟨rfl, rfl⟩
  go_wp2_with fail
  refine (zzHoldsOf c w1 hc (cnt_zero HH.out) H2.out).mono ?_
  rintro e w2 ⟨rfl, rfl⟩
  obtain ⟨b, hb⟩ : ∃ b, (holdOf hs c).isSome = b := ⟨_, rfl⟩
  obtain ⟨f, hf⟩ : ∃ f, floorOf hs c = f := ⟨_, rfl⟩
  rw [hb]
  clear hb
  cases b
  all_goals
    go_wp2_with fail
    refine (zzFloor c w2 hc H1.out).mono ?_
    rintro e w3 ⟨rfl, rfl⟩
    rw [hf]
    go_wp2_with fail
    refine (zzFloor c w3 hc H2.out).mono ?_
    rintro e w4 ⟨rfl, rfl⟩
    rw [hf]
    go_wp2
    go_ret
    exact ⟨rfl, rfl⟩
end
end Go.Proofs.Qxb6617896a
