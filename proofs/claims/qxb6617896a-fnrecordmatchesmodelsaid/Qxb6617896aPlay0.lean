import Derived.Test.Qxb6617896aGood
namespace Go.Proofs.Qxb6617896a

/-- The oldest is one. -/
theorem oldest_one {es : List Ent} {hs : List Hold} {T : Nat → Stp} {k m : Nat} (g : GoodS es hs T k m) {o o' : ByteArray} (h : Oldest es hs o) (h' : Oldest es hs o') : o = o' := by
  obtain ⟨x, hx⟩ := Option.isSome_iff_exists.1 h.1
  obtain ⟨x', hx'⟩ := Option.isSome_iff_exists.1 h'.1
  obtain ⟨hm, hc⟩ := holdOf_some hx
  obtain ⟨hm', hc'⟩ := holdOf_some hx'
  obtain ⟨n, e, he, hec, hei⟩ := g.nw x hm
  obtain ⟨n', e', he', hec', hei'⟩ := g.nw x' hm'
  rw [hc] at n
  rw [hc'] at n'
  have h1 := h.2 _ n o' h'.1 _ n'
  have h2 := h'.2 _ n' o h.1 _ n
  have : e = e' := g.one e he e' he' (by omega)
  rw [← hc, ← hc', ← hec, ← hec', this]

theorem Ev.det {es : List Ent} {hs : List Hold} {T : Nat → Stp} {k m : Nat} (g : GoodS es hs T k m) {e1 e2 : List Ent} {h1 h2 : List Hold} (a : Ev es hs e1 h1) (b : Ev es hs e2 h2) : e1 = e2 ∧ h1 = h2 := by
  rcases a with ⟨a1, rfl, rfl⟩ | ⟨a1, o, a2, rfl, rfl⟩
  · rcases b with ⟨b1, rfl, rfl⟩ | ⟨b1, _⟩
    · exact ⟨rfl, rfl⟩
    · omega
  · rcases b with ⟨b1, _⟩ | ⟨b1, o', b2, rfl, rfl⟩
    · omega
    · rw [oldest_one g a2 b2]
      exact ⟨rfl, rfl⟩

/-- k Records, from nothing. -/
def Plays (T : Nat → Stp) : Nat → List Ent → List Hold → Prop
  | 0, es, hs => es = [] ∧ hs = []
  | k + 1, es, hs => ∃ es0 hs0, Plays T k es0 hs0 ∧ Ev (es2F es0 (T k).c (T k).seq (T k).low (T k).idx (T k).val) (hs2F hs0 (T k).c (T k).seq (T k).low (T k).idx) es hs

theorem Plays.good {T : Nat → Stp} : ∀ {k : Nat}, (∀ i, i < k → StpOk (T i)) → (∀ i, i < k → ∀ j, j < i → (T j).idx < (T i).idx) → ∀ {es : List Ent} {hs : List Hold}, Plays T k es hs → GoodS es hs T k 1024
  | 0, _, _, _, _, ⟨rfl, rfl⟩ => GoodS.start T 1024
  | k + 1, ok, inc, _, _, ⟨_, _, h, e⟩ => ((Plays.good (fun i hi => ok i (by omega)) (fun i hi => inc i (by omega)) h).rec2 (ok k (by omega)) (inc k (by omega))).ev e

theorem Plays.det {T : Nat → Stp} : ∀ {k : Nat}, (∀ i, i < k → StpOk (T i)) → (∀ i, i < k → ∀ j, j < i → (T j).idx < (T i).idx) → ∀ {e1 e2 : List Ent} {h1 h2 : List Hold}, Plays T k e1 h1 → Plays T k e2 h2 → e1 = e2 ∧ h1 = h2
  | 0, _, _, _, _, _, _, ⟨rfl, rfl⟩, ⟨rfl, rfl⟩ => ⟨rfl, rfl⟩
  | k + 1, ok, inc, _, _, _, _, ⟨a1, b1, p1, v1⟩, ⟨a2, b2, p2, v2⟩ => by
    obtain ⟨rfl, rfl⟩ := Plays.det (fun i hi => ok i (by omega)) (fun i hi => inc i (by omega)) p1 p2
    exact Ev.det ((Plays.good (fun i hi => ok i (by omega)) (fun i hi => inc i (by omega)) p1).rec2 (ok k (by omega)) (inc k (by omega))) v1 v2

/-- What dropBelow asks of a state; L: at most so many are held. -/
structure GoodD (es : List Ent) (hs : List Hold) (L : Nat) : Prop where
  nodE : NodE es
  nodH : NodH hs
  held : ∀ e ∈ es, (holdOf hs e.c).isSome
  fr : ∀ c, 0 ≤ floorOf hs c ∧ floorOf hs c ≤ 18446744073709551615
  fl : ∀ e ∈ es, floorOf hs e.c ≤ e.seq
  len : hs.length ≤ L
  elen : es.length ≤ 4096
  byt : bytesE es ≤ 1048576
  nm : ∀ h ∈ hs, h.c.size ≤ Go.maxLen

theorem GoodS.d {es : List Ent} {hs : List Hold} {T : Nat → Stp} {k m : Nat} (g : GoodS es hs T k m) (hk : k ≤ 4096) (hv : vtot T k ≤ 1048576) : GoodD es hs m :=
  ⟨g.nodE, g.nodH, g.held, fun c => floor_mem g.fr, g.fl, g.len, Nat.le_trans g.elen hk, by have := g.byt; omega, g.nm⟩

theorem held_dropH_of {hs : List Hold} {x : ByteArray} (c : ByteArray) (low : Int) (h : (holdOf hs x).isSome) : (holdOf (dropH hs c low) x).isSome := by
  have hH : (holdOf (holdH hs c) x).isSome := by
    unfold holdH
    cases hc : holdOf hs c with
    | some h0 => simpa using h
    | none =>
      rw [show (if (none : Option Hold).isSome = true then hs else hs ++ [⟨c, 0, 0⟩]) = hs ++ [⟨c, 0, 0⟩] from rfl, holdOf_append hc]
      split <;> simp [h]
  unfold dropH
  split
  · rw [held_setFl]; exact hH
  · exact hH

theorem mem_holdH {hs : List Hold} {c : ByteArray} {h : Hold} (hm : h ∈ holdH hs c) : h ∈ hs ∨ h = ⟨c, 0, 0⟩ := by
  unfold holdH at hm
  split at hm
  · exact .inl hm
  · rcases List.mem_append.1 hm with h' | h'
    · exact .inl h'
    · exact .inr (by simpa using h')

theorem GoodD.drop {es : List Ent} {hs : List Hold} {L : Nat} (g : GoodD es hs L) {c : ByteArray} (hc : c.size ≤ Go.maxLen) {low : Int} (h0 : 0 ≤ low) (h1 : low ≤ 18446744073709551615) : GoodD (dropE es c low) (dropH hs c low) (L + 1) := by
  have hm : ∀ e, e ∈ dropE es c low → e ∈ es ∧ ¬ (e.c = c ∧ e.seq < low) := by
    intro e he
    unfold dropE at he
    rw [List.mem_filter] at he
    simp only [Bool.not_eq_true', decide_eq_false_iff_not] at he
    exact he
  refine ⟨g.nodE.filter _, g.nodH.dropH c low, fun e he => held_dropH_of c low (g.held e (hm e he).1), fun x => ?_, fun e he => ?_, ?_, Nat.le_trans (List.length_filter_le _ _) g.elen, Int.le_trans (bytesE_filter_le _ _) g.byt, fun h hh => ?_⟩
  · rw [floorOf_dropH]
    split
    · exact ⟨h0, h1⟩
    · exact g.fr x
  · rw [floorOf_dropH]
    obtain ⟨h2, h3⟩ := hm e he
    have h4 := g.fl e h2
    split
    · rename_i h5
      have : ¬ e.seq < low := fun h6 => h3 ⟨h5.1, h6⟩
      omega
    · exact h4
  · have := length_dropH hs c low
    have := g.len
    omega
  · unfold dropH at hh
    have hH : ∀ h ∈ holdH hs c, h.c.size ≤ Go.maxLen := fun h hh => by
      rcases mem_holdH hh with h' | rfl
      · exact g.nm h h'
      · exact hc
    split at hh
    · unfold setFl at hh
      obtain ⟨y, hy, rfl⟩ := List.mem_map.1 hh
      split
      · exact hH y hy
      · exact hH y hy
    · exact hH h hh

/-- The greater. -/
def gr (a b : Int) : Int := if a < b then b else a

theorem dropE_twice (es : List Ent) (c : ByteArray) (a b : Int) : dropE (dropE es c a) c b = dropE es c (gr a b) := by
  unfold dropE
  rw [List.filter_filter]
  congr 1
  funext e
  unfold gr
  by_cases hc : e.c = c
  · by_cases h1 : e.seq < a
    · by_cases h2 : e.seq < b
      · have : e.seq < if a < b then b else a := by split <;> omega
        simp [hc, h1, h2, this]
      · have : e.seq < if a < b then b else a := by split <;> omega
        simp [hc, h1, h2, this]
    · by_cases h2 : e.seq < b
      · have : e.seq < if a < b then b else a := by split <;> omega
        simp [hc, h1, h2, this]
      · have : ¬ e.seq < if a < b then b else a := by split <;> omega
        simp [hc, h1, h2, this]
  · simp [hc]

theorem holdH_held {hs : List Hold} {c : ByteArray} (h : (holdOf hs c).isSome) : holdH hs c = hs := by
  unfold holdH
  rw [if_pos h]

theorem setFl_setFl (hs : List Hold) (c : ByteArray) (a b : Int) : setFl (setFl hs c a) c b = setFl hs c b := by
  unfold setFl
  rw [List.map_map]
  congr 1
  funext h
  simp only [Function.comp]
  by_cases e : h.c = c <;> simp [e]

theorem dropH_twice (hs : List Hold) (c : ByteArray) (a b : Int) : dropH (dropH hs c a) c b = dropH hs c (gr a b) := by
  have h0 : holdH (dropH hs c a) c = dropH hs c a := holdH_held (held_dropH hs c a)
  have h1 : floorOf (dropH hs c a) c = if floorOf hs c < a then a else floorOf hs c := by
    rw [floorOf_dropH]
    simp
  rw [show dropH (dropH hs c a) c b = if floorOf (dropH hs c a) c < b then setFl (holdH (dropH hs c a) c) c b else holdH (dropH hs c a) c from rfl, h0, h1]
  unfold gr
  by_cases h2 : floorOf hs c < a
  · rw [if_pos h2, show dropH hs c a = setFl (holdH hs c) c a by unfold dropH; rw [if_pos h2]]
    by_cases h3 : a < b
    · rw [if_pos h3, if_pos h3, setFl_setFl]
      unfold dropH
      rw [if_pos (by omega)]
    · rw [if_neg h3, if_neg h3]
      unfold dropH
      rw [if_pos h2]
  · rw [if_neg h2, show dropH hs c a = holdH hs c by unfold dropH; rw [if_neg h2]]
    by_cases h3 : floorOf hs c < b
    · rw [if_pos h3, if_pos (by omega)]
      unfold dropH
      rw [if_pos h3]
    · rw [if_neg h3]
      unfold dropH
      rw [if_neg (by split <;> omega)]
end Go.Proofs.Qxb6617896a
