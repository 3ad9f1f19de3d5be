import Derived.Test.Qxb6617896aMap
import Derived.Test.Qxb6617896aFlat
namespace Go.Proofs.Qxb6617896a
open Go.ChangeShapes Go.WideShapes Go.ChangeAt Go.RowKit
open Go.Maps (Keyed)

theorem hide {p : Prop} (h : p) : Hid p := h

theorem kl9 : Keyed Try.prog 9 := Maps.string_keyed Try.underlying9
theorem kl31 : Keyed Try.prog 31 := Maps.int_keyed Try.underlying31
theorem zero77 (w : World) : (zeroValue 77).run Try.prog w = .ok (.map none) w := by kernel_rfl
theorem zero31 (w : World) : (zeroValue 31).run Try.prog w = .ok (.int .u64 0) w := by kernel_rfl
theorem zero47 (w : World) : (zeroValue 47).run Try.prog w = .ok (.agg #[.int .u64 0, .slice none 0 0]) w := by kernel_rfl

def sk (c : ByteArray) : Lit := .string c.data.toList
def ik (s : Int) : Lit := .int .u64 s
theorem sk_inj {a b : ByteArray} (h : sk a = sk b) : a = b := by
  cases a
  cases b
  simpa [sk] using h
theorem ik_inj {a b : Int} (h : ik a = ik b) : a = b := by simpa [ik] using h
theorem sk_key (c : ByteArray) : WideAt.IsKeyLit (sk c) := by simp [sk, WideAt.IsKeyLit]
theorem ik_key (s : Int) : WideAt.IsKeyLit (ik s) := by simp [ik, WideAt.IsKeyLit]
theorem keyS {c : ByteArray} (h : c.size ≤ maxLen) : keyOf Try.prog 9 (.string c) = some (sk c) := WideMaps.keyOf_string_mk Try.underlying9 h
theorem wf_u64 {s : Int} (h0 : 0 ≤ s) (h1 : s ≤ 18446744073709551615) : (Lit.int .u64 s).wf = true := by
  simp [Lit.wf, IntKind.min, IntKind.max, IntKind.bits, IntKind.signed]
  omega
theorem keyI {s : Int} (h0 : 0 ≤ s) (h1 : s ≤ 18446744073709551615) : keyOf Try.prog 31 (.int .u64 s) = some (ik s) := Maps.keyOf_int_mk Try.underlying31 (wf_u64 h0 h1)

/-- What was written lies in S alone. -/
structure Tch (S : Nat → Prop) (w w' : World) : Prop where
  os : w'.os = w.os
  tape : w'.tape = w.tape
  output : w'.output = w.output
  size : w.heap.size ≤ w'.heap.size
  block : ∀ k, ¬ S k → w'.heap[k]? = w.heap[k]?

theorem Tch.refl (S : Nat → Prop) (w : World) : Tch S w w := ⟨rfl, rfl, rfl, Nat.le_refl _, fun _ _ => rfl⟩
theorem Tch.trans {S : Nat → Prop} {a b c : World} (h : Tch S a b) (k : Tch S b c) : Tch S a c :=
  ⟨k.os.trans h.os, k.tape.trans h.tape, k.output.trans h.output, Nat.le_trans h.size k.size, fun i hi => (k.block i hi).trans (h.block i hi)⟩
theorem Tch.drew {S : Nat → Prop} {a w : World} (h : Tch S a w) : Tch S a w.drew := ⟨h.os, h.tape, h.output, h.size, h.block⟩
theorem Tch.drewN {S : Nat → Prop} {a w : World} (h : Tch S a w) (q : Nat) : Tch S a (w.drewN q) :=
  h.trans ⟨(below_drewN (Below.refl 0 w) q).os, (below_drewN (Below.refl 0 w) q).tape, (below_drewN (Below.refl 0 w) q).output, (below_drewN (Below.refl 0 w) q).size, fun k _ => (below_drewN (Below.refl (k + 1) w) q).block k (by omega)⟩
theorem Tch.alloc {S : Nat → Prop} {a w : World} (h : Tch S a w) (hS : S w.heap.size) (o : Obj) : Tch S a (w.alloc o) :=
  h.trans ⟨rfl, rfl, rfl, by simp, fun k hk => by
    show (w.heap.push o)[k]? = _
    rw [Array.getElem?_push]
    by_cases e : k = w.heap.size
    · subst e; exact absurd hS hk
    · rw [if_neg e]⟩
theorem Tch.setCell {S : Nat → Prop} {a w : World} (h : Tch S a w) {p : Addr} (hp : S p.block) (u : Value) : Tch S a (w.setCell p u) :=
  h.trans ⟨rfl, rfl, rfl, by simp [World.setCell], fun k hk => Below.heap_setCell _ _ _ _ (fun e => hk (e ▸ hp))⟩
theorem Tch.turned {S : Nat → Prop} {a w w' : World} (h : Tch S a w) {b : Nat} (ht : w.mapTurned w' b) (hb : S b) : Tch S a w' :=
  h.trans ⟨ht.grown.os, ht.grown.tape, ht.grown.output, ht.grown.size, fun k hk => by
    obtain ⟨es, clock, es', clock', hx, rfl⟩ := ht
    exact ChangeMaps.heap_setBlock_other hx _ (fun e => hk (e ▸ hb))⟩
theorem Tch.below {S : Nat → Prop} {a w : World} (h : Tch S a w) {B : Nat} (hB : ∀ k, k < B → ¬ S k) : Below B a w := ⟨h.os, h.tape, h.output, h.size, fun k hk => h.block k (hB k hk)⟩
theorem Tch.of_below {S : Nat → Prop} {a w : World} (h : Below a.heap.size a w) (hS : ∀ k, a.heap.size ≤ k → S k) : Tch S a w :=
  ⟨h.os, h.tape, h.output, h.size, fun k hk => by
    by_cases hl : k < a.heap.size
    · exact h.block k hl
    · exact absurd (hS k (by omega)) hk⟩

theorem turned_block {w w' : World} {b : Nat} (ht : w.mapTurned w' b) {k : Nat} (hk : k ≠ b) : w'.heap[k]? = w.heap[k]? := by
  obtain ⟨es, clock, es', clock', hx, rfl⟩ := ht
  exact ChangeMaps.heap_setBlock_other hx _ hk

/-- As 'Sl', the block being one of Vb. -/
def SlV (w : World) (Vb : Nat → Prop) (a : Option Addr) (n c : Nat) (V : Nat → Value) : Prop :=
  n ≤ c ∧ c ≤ maxLen ∧ (0 < n → ∃ b off, a = some ⟨b, off, none⟩ ∧ b < w.heap.size ∧ Vb b ∧ ∀ i, i < n → w.cell? ⟨b, off + i, none⟩ = some (V i))

theorem SlV.sl {w : World} {Vb : Nat → Prop} {a : Option Addr} {n c : Nat} {V : Nat → Value} (h : SlV w Vb a n c V) : Sl w a n c V :=
  ⟨h.1, h.2.1, fun hn => let ⟨b, off, ha, hb, _, hc⟩ := h.2.2 hn; ⟨b, off, ha, hb, hc⟩⟩
theorem SlV.carry {w w' : World} {Vb : Nat → Prop} {a : Option Addr} {n c : Nat} {V : Nat → Value} (h : SlV w Vb a n c V) (hs : w.heap.size ≤ w'.heap.size) (hv : ∀ k, Vb k → k < w.heap.size → w'.heap[k]? = w.heap[k]?) : SlV w' Vb a n c V := by
  refine ⟨h.1, h.2.1, fun hn => ?_⟩
  obtain ⟨b, off, ha, hb, hvb, hc⟩ := h.2.2 hn
  exact ⟨b, off, ha, Nat.lt_of_lt_of_le hb hs, hvb, fun i hi => (World.cell?_of_block (w := w) (hv b hvb hb)).trans (hc i hi)⟩

/-- The value that a kept reply has in memory. -/
def ValOk (w : World) (Vb : Nat → Prop) (e : Ent) (x : Value) : Prop :=
  ∃ a c, x = .agg #[.int .u64 e.idx, .slice a e.val.length c] ∧ SlV w Vb a e.val.length c (fun i => .int .u8 (e.val.getD i 0))

/-- Block b holds the replies kept of c. -/
def InOk (w : World) (Vb : Nat → Prop) (es : List Ent) (c : ByteArray) (b : Nat) : Prop :=
  ∃ fi, MapIs w b 31 fi (cnt es c) ∧ ∀ s, (findE es c s = none → fi (ik s) = none) ∧ ∀ e, findE es c s = some e → ∃ x, fi (ik s) = some x ∧ ValOk w Vb e x

def FlOk (x : Option Value) : Option Hold → Prop
  | none => x = none
  | some h => x = some (.int .u64 h.floor) ∨ (x = none ∧ h.floor = 0)

/-- THE REPLIES AT BLOCK rb HOLD THE FLAT STATE es, hs; B: their byte count; bk, bf: the two maps' blocks; blk: each held coordinator's own map. All these lie in S; the values' bytes in Vb. -/
structure Rep (w : World) (rb : Nat) (S Vb : Nat → Prop) (es : List Ent) (hs : List Hold) (B : Int) (N : Nat) (bk bf : Nat) (blk : ByteArray → Nat) : Prop where
  str : w.heap[rb]? = some (.cells #[.map (some bk), .int .i64 B, .map (some bf)] 64 (0, 0))
  kept : ∃ fk, MapIs w bk 9 fk hs.length ∧ ∀ c, fk (sk c) = if (holdOf hs c).isSome then some (.map (some (blk c))) else none
  inner : ∀ c, (holdOf hs c).isSome → InOk w Vb es c (blk c)
  flo : ∃ ff nf, MapIs w bf 9 ff nf ∧ nf ≤ N ∧ ∀ c, FlOk (ff (sk c)) (holdOf hs c)
  sR : S rb
  sK : S bk
  sF : S bf
  sI : ∀ c, (holdOf hs c).isSome → S (blk c)
  dKF : bk ≠ bf
  dIK : ∀ c, (holdOf hs c).isSome → blk c ≠ bk
  dIF : ∀ c, (holdOf hs c).isSome → blk c ≠ bf
  dI : ∀ c c', (holdOf hs c).isSome → (holdOf hs c').isSome → blk c = blk c' → c = c'

section
variable {w w' : World} {rb : Nat} {S Vb : Nat → Prop} {es : List Ent} {hs : List Hold} {B : Int} {N bk bf : Nat} {blk : ByteArray → Nat}

theorem InOk.carry {c : ByteArray} {b : Nat} (h : InOk w Vb es c b) (hz : w.heap.size ≤ w'.heap.size) (hb : w'.heap[b]? = w.heap[b]?) (hv : ∀ k, Vb k → k < w.heap.size → w'.heap[k]? = w.heap[k]?) : InOk w' Vb es c b := by
  obtain ⟨fi, hm, hf⟩ := h
  refine ⟨fi, hm.of_block hb, fun s => ⟨(hf s).1, fun e he => ?_⟩⟩
  obtain ⟨x, hx, a, c0, rfl, hs⟩ := (hf s).2 e he
  exact ⟨_, hx, a, c0, rfl, hs.carry hz hv⟩

theorem Rep.ltR (h : Rep w rb S Vb es hs B N bk bf blk) : rb < w.heap.size := (Array.getElem?_eq_some_iff.1 h.str).1
theorem Rep.cell0 (h : Rep w rb S Vb es hs B N bk bf blk) : w.cell? ⟨rb, 0, none⟩ = some (.map (some bk)) := by simp [World.cell?, h.str]
theorem Rep.cell1 (h : Rep w rb S Vb es hs B N bk bf blk) : w.cell? ⟨rb, 1, none⟩ = some (.int .i64 B) := by simp [World.cell?, h.str]
theorem Rep.cell2 (h : Rep w rb S Vb es hs B N bk bf blk) : w.cell? ⟨rb, 2, none⟩ = some (.map (some bf)) := by simp [World.cell?, h.str]
theorem Rep.fz (h : Rep w rb S Vb es hs B N bk bf blk) (o : Nat) : w.frozen? ⟨rb, o, none⟩ = false := by simp [World.frozen?, h.str]

theorem map_ne_str {x : Nat} {K : TypeId} {f : Lit → Option Value} {n : Nat} (h : Rep w rb S Vb es hs B N bk bf blk) (hm : MapIs w x K f n) : x ≠ rb := by
  intro e
  subst e
  exact hm.no_cell h.cell0

theorem Rep.ltI (h : Rep w rb S Vb es hs B N bk bf blk) {c : ByteArray} (hc : (holdOf hs c).isSome) : blk c < w.heap.size := by
  obtain ⟨fi, hm, _⟩ := h.inner c hc
  exact hm.lt

/-- Nothing of it was touched. -/
theorem Rep.carry (h : Rep w rb S Vb es hs B N bk bf blk) (hz : w.heap.size ≤ w'.heap.size) (hk : ∀ k, S k ∨ Vb k → k < w.heap.size → w'.heap[k]? = w.heap[k]?) : Rep w' rb S Vb es hs B N bk bf blk := by
  obtain ⟨fk, hm, hf⟩ := h.kept
  obtain ⟨ff, nf, hm2, hn, hf2⟩ := h.flo
  exact ⟨(hk rb (.inl h.sR) h.ltR).trans h.str, ⟨fk, hm.of_block (hk bk (.inl h.sK) hm.lt), hf⟩, fun c hc => (h.inner c hc).carry hz (hk _ (.inl (h.sI c hc)) (h.ltI hc)) (fun k hv hl => hk k (.inr hv) hl),
    ⟨ff, nf, hm2.of_block (hk bf (.inl h.sF) hm2.lt), hn, hf2⟩, h.sR, h.sK, h.sF, h.sI, h.dKF, h.dIK, h.dIF, h.dI⟩

theorem Rep.alloc (h : Rep w rb S Vb es hs B N bk bf blk) (o : Obj) : Rep (w.alloc o) rb S Vb es hs B N bk bf blk :=
  h.carry (by simp) (fun k _ hl => Below.heap_alloc _ _ _ hl)
theorem Rep.drewN (h : Rep w rb S Vb es hs B N bk bf blk) (q : Nat) : Rep (w.drewN q) rb S Vb es hs B N bk bf blk :=
  h.carry (below_drewN (Below.refl 0 w) q).size (fun k _ _ => (below_drewN (Below.refl (k + 1) w) q).block k (by omega))

/-- The byte count is written. -/
theorem Rep.setB (h : Rep w rb S Vb es hs B N bk bf blk) (hd : ∀ k, Vb k → ¬ S k) (B' : Int) : Rep (w.setCell ⟨rb, 1, none⟩ (.int .i64 B')) rb S Vb es hs B' N bk bf blk := by
  have ho : ∀ k, k ≠ rb → (w.setCell ⟨rb, 1, none⟩ (.int .i64 B')).heap[k]? = w.heap[k]? := fun k hk => Below.heap_setCell _ _ _ _ hk
  obtain ⟨fk, hm, hf⟩ := h.kept
  obtain ⟨ff, nf, hm2, hn, hf2⟩ := h.flo
  refine ⟨?_, ⟨fk, hm.of_block (ho bk (map_ne_str h hm)), hf⟩, fun c hc => (h.inner c hc).carry (by simp [World.setCell]) (ho _ ?_) (fun k hv _ => ho k (fun e => hd k hv (e ▸ h.sR))), ⟨ff, nf, hm2.of_block (ho bf (map_ne_str h hm2)), hn, hf2⟩, h.sR, h.sK, h.sF, h.sI, h.dKF, h.dIK, h.dIF, h.dI⟩
  · simp [World.setCell, Array.getElem?_modify, h.str]
  · obtain ⟨fi, hmi, _⟩ := h.inner c hc
    exact map_ne_str h hmi

/-- A floor is written. -/
theorem Rep.setFloor (h : Rep w rb S Vb es hs B N bk bf blk) (hd : ∀ k, Vb k → ¬ S k) {ff : Lit → Option Value} {nf : Nat} {c : ByteArray} {x : Int} (hc : (holdOf hs c).isSome) (hff : ∀ c, FlOk (ff (sk c)) (holdOf hs c)) (hn : nf ≤ N)
    (hm : MapIs w' bf 9 (upd ff (sk c) (some (.int .u64 x))) (putN ff (sk c) nf)) (ht : w.mapTurned w' bf) : Rep w' rb S Vb es (setFl hs c x) B (N + 1) bk bf blk := by
  have ho : ∀ k, k ≠ bf → w'.heap[k]? = w.heap[k]? := fun k hk => turned_block ht hk
  obtain ⟨fk, hm1, hf⟩ := h.kept
  obtain ⟨_, _, hmf, _⟩ := h.flo
  refine ⟨(ho rb (fun e => map_ne_str h hmf e.symm)).trans h.str, ⟨fk, ?_, fun x => by rw [held_setFl]; exact hf x⟩, fun x hx => ?_, ⟨_, _, hm, ?_, fun x => ?_⟩, h.sR, h.sK, h.sF, fun x hx => h.sI x ?_, h.dKF, fun x hx => h.dIK x ?_, fun x hx => h.dIF x ?_, fun x y hx hy => h.dI x y ?_ ?_⟩
  · rw [length_setFl]; exact hm1.of_block (ho bk h.dKF)
  · rw [held_setFl] at hx
    exact (h.inner x hx).carry ht.grown.size (ho _ (h.dIF x hx)) (fun k hv _ => ho k (fun e => hd k hv (e ▸ h.sF)))
  · unfold putN; split <;> omega
  · rw [holdOf_setFl]
    by_cases e : x = c
    · subst e
      rw [upd_same _ (sk_key _)]
      cases hh : holdOf hs x with
      | none => rw [hh] at hc; cases hc
      | some hd' =>
        have := (holdOf_some hh).2
        simp [this, FlOk]
    · rw [upd_other _ _ (fun e' => e (sk_inj e'))]
      have := hff x
      cases hh : holdOf hs x with
      | none => rw [hh] at this; simpa using this
      | some hd' =>
        rw [hh] at this
        have hne : ¬ hd'.c = c := fun e' => e ((holdOf_some hh).2.symm.trans e')
        simpa [hne] using this
  all_goals (first | (rw [held_setFl] at hx; exact hx) | (rw [held_setFl] at hy; exact hy))

/-- A coordinator is held from now on: its map is made, and laid into 'kept'. -/
theorem Rep.holdNew (h : Rep w rb S Vb es hs B N bk bf blk) (hd : ∀ k, Vb k → ¬ S k) (hup : ∀ k, w.heap.size ≤ k → S k) {fk : Lit → Option Value} {c : ByteArray} (hc : holdOf hs c = none) (hno : ∀ e ∈ es, e.c ≠ c)
    (hfk : ∀ c, fk (sk c) = if (holdOf hs c).isSome then some (.map (some (blk c))) else none)
    (hm : MapIs w' bk 9 (upd fk (sk c) (some (.map (some w.heap.size)))) (putN fk (sk c) hs.length)) (ht : (w.alloc (.map #[] 0)).mapTurned w' bk) : Rep w' rb S Vb es (hs ++ [⟨c, 0, 0⟩]) B N bk bf (fun x => if x = c then w.heap.size else blk x) := by
  have h1 := h.alloc (.map #[] 0)
  have ho : ∀ k, k ≠ bk → w'.heap[k]? = (w.alloc (.map #[] 0)).heap[k]? := fun k hk => turned_block ht hk
  obtain ⟨_, hm0, _⟩ := h.kept
  obtain ⟨ff, nf, hm2, hn, hf2⟩ := h1.flo
  have hbk : bk < w.heap.size := hm0.lt
  have hbf : bf < w.heap.size := by obtain ⟨_, _, hx, _⟩ := h.flo; exact hx.lt
  have hnew : w.heap.size ≠ bk := by omega
  have hsz := ht.grown.size
  have hcnt : cnt es c = 0 := by
    unfold cnt
    rw [List.length_eq_zero_iff, List.filter_eq_nil_iff]
    intro e he
    simpa using hno e he
  have hfind : ∀ s, findE es c s = none := fun s => findE_none.2 (fun e he h' => hno e he h'.1)
  have hheld : ∀ x, (holdOf (hs ++ [⟨c, 0, 0⟩]) x).isSome = (decide (x = c) || (holdOf hs x).isSome) := by
    intro x
    rw [holdOf_append hc]
    by_cases e : x = c
    · simp [e]
    · simp [e]
  have hold : ∀ x, x ≠ c → (holdOf (hs ++ [⟨c, 0, 0⟩]) x).isSome → (holdOf hs x).isSome := by
    intro x hx hy
    rw [hheld] at hy
    simpa [hx] using hy
  refine ⟨(ho rb ?_).trans h1.str, ⟨upd fk (sk c) (some (.map (some w.heap.size))), ?_, fun x => ?_⟩, fun x hx => ?_, ⟨ff, nf, hm2.of_block (ho bf (fun e => h.dKF e.symm)), hn, fun x => ?_⟩, h.sR, h.sK, h.sF, fun x hx => ?_, h.dKF, fun x hx => ?_, fun x hx => ?_, fun x y hx hy e => ?_⟩
  · obtain ⟨_, hx, _⟩ := h1.kept
    exact fun e => map_ne_str h1 hx e.symm
  · have : (hs ++ [(⟨c, 0, 0⟩ : Hold)]).length = putN fk (sk c) hs.length := by
      unfold putN
      rw [hfk c, hc]
      simp
    rw [this]
    exact hm
  · rw [hheld]
    by_cases e : x = c
    · subst e
      rw [upd_same _ (sk_key _)]
      simp
    · rw [upd_other _ _ (fun e' => e (sk_inj e')), hfk x]
      simp [e]
  · by_cases e : x = c
    · subst e
      simp only [if_true]
      refine ⟨fun _ => none, ?_, fun s => ⟨fun _ => rfl, fun e he => by rw [hfind s] at he; cases he⟩⟩
      rw [hcnt]
      exact (MapIs.made w 31).of_block (ho _ hnew)
    · simp only [e, if_false]
      have hx' := hold x e hx
      exact (h1.inner x hx').carry hsz (ho _ (h.dIK x hx')) (fun k hv _ => ho k (fun e => hd k hv (e ▸ h.sK)))
  · rw [holdOf_append hc]
    by_cases e : x = c
    · subst e
      simp only [if_true]
      have := hf2 x
      rw [hc] at this
      exact .inr ⟨this, rfl⟩
    · simp only [e, if_false]
      exact hf2 x
  · by_cases e : x = c
    · simp only [e, if_true]; exact hup _ (Nat.le_refl _)
    · simp only [e, if_false]; exact h.sI x (hold x e hx)
  · by_cases e : x = c
    · simp only [e, if_true]; exact hnew
    · simp only [e, if_false]; exact h.dIK x (hold x e hx)
  · by_cases e : x = c
    · simp only [e, if_true]; omega
    · simp only [e, if_false]; exact h.dIF x (hold x e hx)
  · by_cases e1 : x = c
    · by_cases e2 : y = c
      · exact e1.trans e2.symm
      · simp only [e1, e2, if_true, if_false] at e
        have := h.ltI (hold y e2 hy)
        omega
    · by_cases e2 : y = c
      · simp only [e1, e2, if_true, if_false] at e
        have := h.ltI (hold x e1 hx)
        omega
      · simp only [e1, e2, if_false] at e
        exact h.dI x y (hold x e1 hx) (hold y e2 hy) e

end
end Go.Proofs.Qxb6617896a
