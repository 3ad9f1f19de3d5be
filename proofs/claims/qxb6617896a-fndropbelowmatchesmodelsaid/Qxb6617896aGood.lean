import Derived.Test.Qxb6617896aRec
import Derived.Test.Qxb6617896aSteps
namespace Go.Proofs.Qxb6617896a

theorem mem_putE {L : List Ent} {c : ByteArray} {s i : Int} {v : List Int} {e : Ent} : e ∈ putE L c s i v ↔ e = ⟨c, s, i, v⟩ ∨ (e ∈ L ∧ ¬ (e.c = c ∧ e.seq = s)) := by
  rw [putE_eq]
  by_cases h : (findE L c s).isSome
  · rw [if_pos h]
    obtain ⟨e0, he0⟩ := Option.isSome_iff_exists.1 h
    obtain ⟨hm, hc, hs⟩ := findE_some he0
    rw [List.mem_map]
    constructor
    · rintro ⟨y, hy, rfl⟩
      unfold repl
      split
      · exact .inl rfl
      · rename_i hk; exact .inr ⟨hy, hk⟩
    · rintro (rfl | ⟨hy, hk⟩)
      · exact ⟨e0, hm, by unfold repl; rw [if_pos ⟨hc, hs⟩]⟩
      · exact ⟨e, hy, by unfold repl; rw [if_neg hk]⟩
  · rw [if_neg h, List.mem_append, List.mem_singleton]
    have hn : findE L c s = none := by simpa using h
    constructor
    · rintro (hy | rfl)
      · exact .inr ⟨hy, findE_none.1 hn e hy⟩
      · exact .inl rfl
    · rintro (rfl | ⟨hy, _⟩)
      · exact .inr rfl
      · exact .inl hy

theorem mem_es2 {es : List Ent} {c : ByteArray} {s low i : Int} {v : List Int} {e : Ent} : e ∈ es2F es c s low i v ↔ e = ⟨c, s, i, v⟩ ∨ (e ∈ es ∧ ¬ (e.c = c ∧ e.seq < low) ∧ ¬ (e.c = c ∧ e.seq = s)) := by
  unfold es2F
  rw [mem_putE]
  unfold dropE
  rw [List.mem_filter]
  simp only [Bool.not_eq_true', decide_eq_false_iff_not, and_assoc]

theorem findE_es2 (es : List Ent) (c x : ByteArray) (s low i t : Int) (v : List Int) : findE (es2F es c s low i v) x t = if x = c ∧ t = s then some ⟨c, s, i, v⟩ else if x = c ∧ t < low then none else findE es x t := by
  unfold es2F
  rw [findE_putE, findE_dropE]

theorem floorOf_setFl (hs : List Hold) (c x : ByteArray) (v : Int) (hc : (holdOf hs c).isSome) : floorOf (setFl hs c v) x = if x = c then v else floorOf hs x := by
  unfold floorOf
  rw [holdOf_setFl]
  by_cases e : x = c
  · subst e
    obtain ⟨h, hh⟩ := Option.isSome_iff_exists.1 hc
    rw [hh]
    simp [(holdOf_some hh).2]
  · rw [if_neg e]
    cases hh : holdOf hs x with
    | none => rfl
    | some h =>
      have : ¬ h.c = c := fun e' => e ((holdOf_some hh).2.symm.trans e')
      simp [this]
theorem floorOf_setLast (hs : List Hold) (c x : ByteArray) (v : Int) : floorOf (setLast hs c v) x = floorOf hs x := by
  unfold floorOf
  rw [holdOf_setLast]
  cases hh : holdOf hs x with
  | none => rfl
  | some h =>
    simp only [Option.map_some]
    split <;> rfl

theorem floorOf_dropH (hs : List Hold) (c x : ByteArray) (low : Int) : floorOf (dropH hs c low) x = if x = c ∧ floorOf hs c < low then low else floorOf hs x := by
  unfold dropH
  by_cases h : floorOf hs c < low
  · rw [if_pos h, floorOf_setFl _ _ _ _ (held_holdH hs c), floorOf_holdH]
    by_cases e : x = c <;> simp [e, h]
  · rw [if_neg h, floorOf_holdH, if_neg (fun h' => h h'.2)]

/-- The floor behind a Record. -/
def flNew (f s low : Int) : Int := if s < (if f < low then low else f) then s else (if f < low then low else f)

theorem floorOf_hs2 (hs : List Hold) (c x : ByteArray) (s low i : Int) : floorOf (hs2F hs c s low i) x = if x = c then flNew (floorOf hs c) s low else floorOf hs x := by
  unfold hs2F
  rw [floorOf_setLast, floorOf_setFl _ _ _ _ (held_dropH hs c low), floorOf_dropH, floorOf_dropH]
  by_cases e : x = c
  · simp [e, flNew]
  · simp [e]

theorem held_hs2 (hs : List Hold) (c x : ByteArray) (s low i : Int) : (holdOf (hs2F hs c s low i) x).isSome = (decide (x = c) || (holdOf hs x).isSome) := by
  have hH : (holdOf (holdH hs c) x).isSome = (decide (x = c) || (holdOf hs x).isSome) := by
    unfold holdH
    cases h : holdOf hs c with
    | some h0 =>
      by_cases e : x = c
      · subst e; simp [h]
      · simp [e]
    | none =>
      rw [show (if (none : Option Hold).isSome = true then hs else hs ++ [⟨c, 0, 0⟩]) = hs ++ [⟨c, 0, 0⟩] from rfl, holdOf_append h]
      by_cases e : x = c <;> simp [e]
  unfold hs2F dropH
  rw [held_setLast, held_setFl]
  split
  · rw [held_setFl]; exact hH
  · exact hH

theorem mem_hs2 {hs : List Hold} {c : ByteArray} {s low i : Int} {h : Hold} (hm : h ∈ hs2F hs c s low i) : (h.c = c ∧ h.last = i ∧ h.floor = flNew (floorOf hs c) s low) ∨ (h.c ≠ c ∧ h ∈ hs) := by
  unfold hs2F setLast at hm
  obtain ⟨h1, hm1, rfl⟩ := List.mem_map.1 hm
  unfold setFl at hm1
  obtain ⟨h2, hm2, rfl⟩ := List.mem_map.1 hm1
  have hH : h2 ∈ dropH hs c low → h2.c ≠ c → h2 ∈ hs := by
    intro h3 h4
    have h5 : ∀ y ∈ holdH hs c, y.c ≠ c → y ∈ hs := by
      intro y hy hyc
      unfold holdH at hy
      split at hy
      · exact hy
      · rcases List.mem_append.1 hy with h' | h'
        · exact h'
        · rw [List.mem_singleton] at h'; subst h'; exact absurd rfl hyc
    unfold dropH at h3
    split at h3
    · unfold setFl at h3
      obtain ⟨h6, h7, h8⟩ := List.mem_map.1 h3
      by_cases e : h6.c = c
      · rw [if_pos e] at h8; subst h8; exact absurd e h4
      · rw [if_neg e] at h8; subst h8; exact h5 _ h7 h4
    · exact h5 _ h3 h4
  by_cases e : h2.c = c
  · left
    simp only [e, if_true]
    refine ⟨trivial, trivial, ?_⟩
    rw [floorOf_dropH]
    simp [flNew]
  · right
    simp only [e, if_false]
    exact ⟨e, hH hm2 e⟩

/-- The bytes of the first k values. -/
def vtot (T : Nat → Stp) : Nat → Nat
  | 0 => 0
  | k + 1 => vtot T k + (T k).val.length

/-- What holds of the state behind k records; m: how many coordinators it may hold. -/
structure GoodS (es : List Ent) (hs : List Hold) (T : Nat → Stp) (k m : Nat) : Prop where
  nodE : NodE es
  nodH : NodH hs
  held : ∀ e ∈ es, (holdOf hs e.c).isSome
  fl : ∀ e ∈ es, floorOf hs e.c ≤ e.seq
  fr : ∀ h ∈ hs, 0 ≤ h.floor ∧ h.floor ≤ 18446744073709551615
  ix : ∀ e ∈ es, ∃ j, j < k ∧ e.idx = (T j).idx
  one : ∀ e ∈ es, ∀ e' ∈ es, e.idx = e'.idx → e = e'
  nw : ∀ h ∈ hs, IsNw es h.c h.last ∧ ∃ e ∈ es, e.c = h.c ∧ e.idx = h.last
  len : hs.length ≤ m
  elen : es.length ≤ k
  byt : bytesE es ≤ (vtot T k : Int)
  nm : ∀ h ∈ hs, h.c.size ≤ Go.maxLen

theorem GoodS.start (T : Nat → Stp) (m : Nat) : GoodS [] [] T 0 m :=
  ⟨List.Pairwise.nil, List.Pairwise.nil, fun _ h => (by cases h), fun _ h => (by cases h), fun _ h => (by cases h), fun _ h => (by cases h), fun _ h => (by cases h), fun _ h => (by cases h), Nat.zero_le _, Nat.zero_le _, by simp [bytesE, vtot], fun _ h => (by cases h)⟩

theorem floor_mem {hs : List Hold} {c : ByteArray} (fr : ∀ h ∈ hs, 0 ≤ h.floor ∧ h.floor ≤ 18446744073709551615) : 0 ≤ floorOf hs c ∧ floorOf hs c ≤ 18446744073709551615 := by
  unfold floorOf
  cases h : holdOf hs c with
  | none => exact ⟨by simp, by simp⟩
  | some h0 => exact fr h0 (holdOf_some h).1

theorem putE_length {L : List Ent} {c : ByteArray} {s i : Int} {v : List Int} : (putE L c s i v).length ≤ L.length + 1 := by
  rw [putE_eq]
  split <;> simp

/-- One Record, before the eviction. -/
theorem GoodS.rec2 {es : List Ent} {hs : List Hold} {T : Nat → Stp} {k m : Nat} (g : GoodS es hs T k m) (ok : StpOk (T k)) (hinc : ∀ j, j < k → (T j).idx < (T k).idx) :
    GoodS (es2F es (T k).c (T k).seq (T k).low (T k).idx (T k).val) (hs2F hs (T k).c (T k).seq (T k).low (T k).idx) T (k + 1) (m + 1) := by
  rcases hT : T k with ⟨c, s, low, i, v⟩
  rw [hT] at ok hinc
  show GoodS (es2F es c s low i v) (hs2F hs c s low i) T (k + 1) (m + 1)
  have hf := floor_mem (c := c) g.fr
  have o1 := ok.s0
  have o2 := ok.s1
  have o3 := ok.l0
  have o4 := ok.l1
  have o5 := ok.i0
  simp only at o1 o2 o3 o4 o5
  have hix : ∀ e ∈ es, e.idx < i := by
    intro e he
    obtain ⟨j, hj, e'⟩ := g.ix e he
    have := hinc j hj
    simp only at this
    omega
  have hfn : 0 ≤ flNew (floorOf hs c) s low ∧ flNew (floorOf hs c) s low ≤ 18446744073709551615 ∧ flNew (floorOf hs c) s low ≤ s := by
    unfold flNew
    split <;> split <;> omega
  have hnd : NodE (dropE es c low) := g.nodE.filter _
  refine ⟨hnd.put c s i v, ((g.nodH.dropH c low).setFl c _).setLast c i, fun e he => ?_, fun e he => ?_, fun h hh => ?_, fun e he => ?_, fun e he e' he' hie => ?_, fun h hh => ?_, ?_, ?_, ?_, fun h hh => ?_⟩
  · rw [held_hs2]
    rcases mem_es2.1 he with rfl | ⟨h1, _, _⟩
    · simp
    · simp [g.held e h1]
  · rw [floorOf_hs2]
    rcases mem_es2.1 he with rfl | ⟨h1, h2, h3⟩
    · simp only [if_true]; exact hfn.2.2
    · by_cases hc : e.c = c
      · rw [if_pos hc]
        have h4 := g.fl e h1
        rw [hc] at h4
        have h5 : ¬ e.seq < low := fun h => h2 ⟨hc, h⟩
        unfold flNew
        split <;> split <;> omega
      · rw [if_neg hc]; exact g.fl e h1
  · rcases mem_hs2 hh with ⟨_, _, h3⟩ | ⟨_, h2⟩
    · rw [h3]; exact ⟨hfn.1, hfn.2.1⟩
    · exact g.fr h h2
  · rcases mem_es2.1 he with rfl | ⟨h1, _, _⟩
    · exact ⟨k, by omega, by rw [hT]⟩
    · obtain ⟨j, hj, e'⟩ := g.ix e h1
      exact ⟨j, by omega, e'⟩
  · rcases mem_es2.1 he with rfl | ⟨h1, _, _⟩
    · rcases mem_es2.1 he' with rfl | ⟨h1', _, _⟩
      · rfl
      · have := hix e' h1'; simp only at hie; omega
    · rcases mem_es2.1 he' with rfl | ⟨h1', _, _⟩
      · have := hix e h1; simp only at hie; omega
      · exact g.one e h1 e' h1' hie
  · rcases mem_hs2 hh with ⟨h1, h2, _⟩ | ⟨h1, h2⟩
    · rw [h1, h2]
      refine ⟨⟨o5, fun e he hec => ?_, .inr ⟨⟨c, s, i, v⟩, mem_es2.2 (.inl rfl), rfl, rfl⟩⟩, ⟨c, s, i, v⟩, mem_es2.2 (.inl rfl), rfl, rfl⟩
      rcases mem_es2.1 he with rfl | ⟨h3, _, _⟩
      · exact Int.le_refl _
      · have := hix e h3; omega
    · obtain ⟨⟨n0, n1, n2⟩, e0, he0, hc0, hi0⟩ := g.nw h h2
      have hin : ∀ e, e.c = h.c → (e ∈ es2F es c s low i v ↔ e ∈ es) := by
        intro e hec
        rw [mem_es2]
        constructor
        · rintro (rfl | ⟨h3, _, _⟩)
          · exact absurd hec.symm h1
          · exact h3
        · intro h3
          exact .inr ⟨h3, fun h4 => h1 (hec.symm.trans h4.1), fun h4 => h1 (hec.symm.trans h4.1)⟩
      refine ⟨⟨n0, fun e he hec => n1 e ((hin e hec).1 he) hec, ?_⟩, e0, (hin e0 hc0).2 he0, hc0, hi0⟩
      rcases n2 with n2 | ⟨e1, he1, hc1, hi1⟩
      · exact .inl n2
      · exact .inr ⟨e1, (hin e1 hc1).2 he1, hc1, hi1⟩
  · unfold hs2F
    rw [length_setLast, length_setFl]
    have := length_dropH hs c low
    have := g.len
    omega
  · unfold es2F
    have h1 := putE_length (L := dropE es c low) (c := c) (s := s) (i := i) (v := v)
    have h2 : (dropE es c low).length ≤ es.length := List.length_filter_le _ _
    have := g.elen
    omega
  · unfold es2F
    rw [bytesE_put hnd]
    have h2 : bytesE (dropE es c low) ≤ bytesE es := bytesE_filter_le _ _
    have := g.byt
    simp only [vtot, hT]
    omega
  · rcases mem_hs2 hh with ⟨h1, _, _⟩ | ⟨_, h2⟩
    · rw [h1]; exact ok.c
    · exact g.nm h h2

/-- A coordinator goes. -/
theorem GoodS.evict {es : List Ent} {hs : List Hold} {T : Nat → Stp} {k m : Nat} (g : GoodS es hs T k (m + 1)) {o : ByteArray} (ho : (holdOf hs o).isSome) : GoodS (minusE es o) (minusH hs o) T k m := by
  have hme : ∀ e, e ∈ minusE es o ↔ e ∈ es ∧ e.c ≠ o := by
    intro e
    unfold minusE
    rw [List.mem_filter]
    simp
  have hmh : ∀ h, h ∈ minusH hs o ↔ h ∈ hs ∧ h.c ≠ o := by
    intro e
    unfold minusH
    rw [List.mem_filter]
    simp
  refine ⟨g.nodE.filter _, List.Pairwise.filter _ g.nodH, fun e he => ?_, fun e he => ?_, fun h hh => g.fr h ((hmh h).1 hh).1, fun e he => g.ix e ((hme e).1 he).1, fun e he e' he' => g.one e ((hme e).1 he).1 e' ((hme e').1 he').1, fun h hh => ?_, ?_, ?_, ?_, fun h hh => g.nm h ((hmh h).1 hh).1⟩
  · rw [holdOf_minusH, if_neg ((hme e).1 he).2]
    exact g.held e ((hme e).1 he).1
  · have := g.fl e ((hme e).1 he).1
    unfold floorOf at this ⊢
    rw [holdOf_minusH, if_neg ((hme e).1 he).2]
    exact this
  · obtain ⟨h1, h2⟩ := (hmh h).1 hh
    obtain ⟨⟨n0, n1, n2⟩, e0, he0, hc0, hi0⟩ := g.nw h h1
    refine ⟨⟨n0, fun e he hec => n1 e ((hme e).1 he).1 hec, ?_⟩, e0, (hme e0).2 ⟨he0, by rw [hc0]; exact h2⟩, hc0, hi0⟩
    rcases n2 with n2 | ⟨e1, he1, hc1, hi1⟩
    · exact .inl n2
    · exact .inr ⟨e1, (hme e1).2 ⟨he1, by rw [hc1]; exact h2⟩, hc1, hi1⟩
  · have := length_minusH g.nodH ho
    have := g.len
    omega
  · have h2 : (minusE es o).length ≤ es.length := List.length_filter_le _ _
    have := g.elen
    omega
  · have h2 : bytesE (minusE es o) ≤ bytesE es := bytesE_filter_le _ _
    have := g.byt
    omega

theorem GoodS.ev {es : List Ent} {hs : List Hold} {T : Nat → Stp} {k : Nat} (g : GoodS es hs T k 1025) {es' : List Ent} {hs' : List Hold} (h : Ev es hs es' hs') : GoodS es' hs' T k 1024 := by
  rcases h with ⟨h1, rfl, rfl⟩ | ⟨h1, o, h2, rfl, rfl⟩
  · exact ⟨g.nodE, g.nodH, g.held, g.fl, g.fr, g.ix, g.one, g.nw, h1, g.elen, g.byt, g.nm⟩
  · exact g.evict h2.1

/-- The oldest is not the last writer. -/
theorem oldest_ne {es : List Ent} {hs : List Hold} {T : Nat → Stp} {k m : Nat} (g : GoodS es hs T k m) {c o : ByteArray} {i : Int} (hl : 1 < hs.length) (hc : IsNw es c i) (hi : ∀ e ∈ es, e.c ≠ c → e.idx < i) (ho : Oldest es hs o) : o ≠ c := by
  intro e
  subst e
  obtain ⟨x, hx, hne⟩ : ∃ x ∈ hs, x.c ≠ o := by
    match hs, hl, g.nodH with
    | a :: b :: r, _, hn =>
      unfold NodH at hn
      rw [List.pairwise_cons] at hn
      have := hn.1 b (by simp)
      by_cases e : a.c = o
      · exact ⟨b, by simp, fun e' => this (e.trans e'.symm)⟩
      · exact ⟨a, by simp, e⟩
  obtain ⟨hnw, e0, he0, hc0, hi0⟩ := g.nw x hx
  have h1 := ho.2 i hc x.c (by rw [holdOf_of_mem g.nodH hx]; rfl) x.last hnw
  have h2 := hi e0 he0 (by rw [hc0]; exact hne)
  omega

/-- What law 7 looks at, behind one Record. -/
theorem GoodS.seen {es : List Ent} {hs : List Hold} {T : Nat → Stp} {k : Nat} (g : GoodS es hs T k 1024) (ok : StpOk (T k)) (hinc : ∀ j, j < k → (T j).idx < (T k).idx) {es' : List Ent} {hs' : List Hold}
    (h : Ev (es2F es (T k).c (T k).seq (T k).low (T k).idx (T k).val) (hs2F hs (T k).c (T k).seq (T k).low (T k).idx) es' hs') :
    findE es' (T k).c (T k).seq = some ⟨(T k).c, (T k).seq, (T k).idx, (T k).val⟩ ∧ floorOf hs' (T k).c = flNew (floorOf hs (T k).c) (T k).seq (T k).low ∧ ∀ t, t < (T k).low → t ≠ (T k).seq → findE es' (T k).c t = none := by
  have g2 := g.rec2 ok hinc
  rcases hT : T k with ⟨c, s, low, i, v⟩
  rw [hT] at ok hinc h g2
  simp only at *
  have base : findE (es2F es c s low i v) c s = some ⟨c, s, i, v⟩ ∧ floorOf (hs2F hs c s low i) c = flNew (floorOf hs c) s low ∧ ∀ t, t < low → t ≠ s → findE (es2F es c s low i v) c t = none := by
    refine ⟨by rw [findE_es2]; simp, by rw [floorOf_hs2]; simp, fun t h1 h2 => ?_⟩
    rw [findE_es2, if_neg (fun h' => h2 h'.2), if_pos ⟨rfl, h1⟩]
  rcases h with ⟨h1, rfl, rfl⟩ | ⟨h1, o, h2, rfl, rfl⟩
  · exact base
  · have hnw : IsNw (es2F es c s low i v) c i := by
      have hh := held_hs2 hs c c s low i
      simp only [decide_true, Bool.true_or] at hh
      obtain ⟨h0, hh0⟩ := Option.isSome_iff_exists.1 hh
      obtain ⟨hm, hhc⟩ := holdOf_some hh0
      have := (g2.nw h0 hm).1
      rcases mem_hs2 hm with ⟨_, h4, _⟩ | ⟨h3, _⟩
      · rw [hhc, h4] at this; exact this
      · exact absurd hhc h3
    have hlt : ∀ e ∈ es2F es c s low i v, e.c ≠ c → e.idx < i := by
      intro e he hec
      rcases mem_es2.1 he with rfl | ⟨h3, _, _⟩
      · exact absurd rfl hec
      · obtain ⟨j, hj, e'⟩ := g.ix e h3
        have := hinc j hj
        omega
    have hne := oldest_ne g2 (by omega) hnw hlt h2
    have hne' : ¬ c = o := fun e => hne e.symm
    refine ⟨?_, ?_, fun t h3 h4 => ?_⟩
    · rw [findE_minusE, if_neg hne']; exact base.1
    · have := base.2.1
      unfold floorOf at this ⊢
      rw [holdOf_minusH, if_neg hne']
      exact this
    · rw [findE_minusE, if_neg hne']; exact base.2.2 t h3 h4
end Go.Proofs.Qxb6617896a
