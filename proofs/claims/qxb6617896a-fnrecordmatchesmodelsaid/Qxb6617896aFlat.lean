/- The flat state that both the Replies and the law's own model hold: plain lists, no Go in sight. -/
namespace Go.Proofs.Qxb6617896a

structure Ent where
  c : ByteArray
  seq : Int
  idx : Int
  val : List Int

structure Hold where
  c : ByteArray
  floor : Int
  last : Int

structure St where
  es : List Ent
  hs : List Hold

def findE (es : List Ent) (c : ByteArray) (s : Int) : Option Ent := es.find? fun e => decide (e.c = c ∧ e.seq = s)
def holdOf (hs : List Hold) (c : ByteArray) : Option Hold := hs.find? fun h => decide (h.c = c)
def cnt (es : List Ent) (c : ByteArray) : Nat := (es.filter fun e => decide (e.c = c)).length
def bytesE (es : List Ent) : Int := (es.map fun e => (e.val.length : Int)).sum

def holdH (hs : List Hold) (c : ByteArray) : List Hold := if (holdOf hs c).isSome then hs else hs ++ [⟨c, 0, 0⟩]
def setFl (hs : List Hold) (c : ByteArray) (x : Int) : List Hold := hs.map fun h => if h.c = c then ⟨h.c, x, h.last⟩ else h
def setLast (hs : List Hold) (c : ByteArray) (x : Int) : List Hold := hs.map fun h => if h.c = c then ⟨h.c, h.floor, x⟩ else h
def delE (es : List Ent) (c : ByteArray) (s : Int) : List Ent := es.filter fun e => !decide (e.c = c ∧ e.seq = s)
def dropE (es : List Ent) (c : ByteArray) (low : Int) : List Ent := es.filter fun e => !decide (e.c = c ∧ e.seq < low)
def putE (es : List Ent) (c : ByteArray) (s i : Int) (v : List Int) : List Ent :=
  if (findE es c s).isSome then es.map (fun e => if e.c = c ∧ e.seq = s then ⟨c, s, i, v⟩ else e) else es ++ [⟨c, s, i, v⟩]
def floorOf (hs : List Hold) (c : ByteArray) : Int := match holdOf hs c with | some h => h.floor | none => 0

/-- No two entries bear one coordinator and one number. -/
def NodE (es : List Ent) : Prop := es.Pairwise fun a b => a.c ≠ b.c ∨ a.seq ≠ b.seq
def NodH (hs : List Hold) : Prop := hs.Pairwise fun a b => a.c ≠ b.c

theorem findE_some {es : List Ent} {c : ByteArray} {s : Int} {e : Ent} (h : findE es c s = some e) : e ∈ es ∧ e.c = c ∧ e.seq = s := by
  have h1 := List.mem_of_find?_eq_some h
  have h2 := List.find?_some h
  simp at h2
  exact ⟨h1, h2.1, h2.2⟩

theorem findE_none {es : List Ent} {c : ByteArray} {s : Int} : findE es c s = none ↔ ∀ e ∈ es, ¬ (e.c = c ∧ e.seq = s) := by
  unfold findE
  rw [List.find?_eq_none]
  simp

theorem findE_of_mem : ∀ {es : List Ent}, NodE es → ∀ {e : Ent}, e ∈ es → findE es e.c e.seq = some e
  | [], _, _, h => by simp at h
  | a :: r, hn, e, h => by
    obtain ⟨h1, h2⟩ := List.pairwise_cons.1 hn
    unfold findE
    rw [List.find?_cons]
    rcases List.mem_cons.1 h with rfl | h
    · simp
    · have hne := h1 e h
      have : decide (a.c = e.c ∧ a.seq = e.seq) = false := by
        simp
        intro hc hs
        rcases hne with hne | hne
        · exact hne hc
        · exact hne hs
      rw [this]
      exact findE_of_mem h2 h

theorem holdOf_some {hs : List Hold} {c : ByteArray} {h : Hold} (e : holdOf hs c = some h) : h ∈ hs ∧ h.c = c := by
  have h1 := List.mem_of_find?_eq_some e
  have h2 := List.find?_some e
  simp at h2
  exact ⟨h1, h2⟩

theorem holdOf_none {hs : List Hold} {c : ByteArray} : holdOf hs c = none ↔ ∀ h ∈ hs, h.c ≠ c := by
  unfold holdOf
  rw [List.find?_eq_none]
  simp

theorem holdOf_of_mem : ∀ {hs : List Hold}, NodH hs → ∀ {h : Hold}, h ∈ hs → holdOf hs h.c = some h
  | [], _, _, h => by simp at h
  | a :: r, hn, e, h => by
    obtain ⟨h1, h2⟩ := List.pairwise_cons.1 hn
    unfold holdOf
    rw [List.find?_cons]
    rcases List.mem_cons.1 h with rfl | h
    · simp
    · have : decide (a.c = e.c) = false := by simp; exact h1 e h
      rw [this]
      exact holdOf_of_mem h2 h

theorem holdOf_append {hs : List Hold} {c x : ByteArray} (hn : holdOf hs c = none) : holdOf (hs ++ [⟨c, 0, 0⟩]) x = if x = c then some ⟨c, 0, 0⟩ else holdOf hs x := by
  unfold holdOf at *
  rw [List.find?_append]
  by_cases e : x = c
  · subst e
    rw [hn]
    simp
  · rw [if_neg e]
    have : List.find? (fun h : Hold => decide (h.c = x)) [⟨c, 0, 0⟩] = none := by
      simp
      exact fun h => e h.symm
    rw [this]
    simp

theorem holdOf_setFl (hs : List Hold) (c x : ByteArray) (v : Int) : holdOf (setFl hs c v) x = (holdOf hs x).map fun h => if h.c = c then ⟨h.c, v, h.last⟩ else h := by
  unfold holdOf setFl
  rw [List.find?_map]
  have : ((fun h : Hold => decide (h.c = x)) ∘ fun h : Hold => if h.c = c then ⟨h.c, v, h.last⟩ else h) = fun h : Hold => decide (h.c = x) := by
    funext h
    simp only [Function.comp]
    split <;> rfl
  rw [this]

theorem holdOf_setLast (hs : List Hold) (c x : ByteArray) (v : Int) : holdOf (setLast hs c v) x = (holdOf hs x).map fun h => if h.c = c then ⟨h.c, h.floor, v⟩ else h := by
  unfold holdOf setLast
  rw [List.find?_map]
  have : ((fun h : Hold => decide (h.c = x)) ∘ fun h : Hold => if h.c = c then ⟨h.c, h.floor, v⟩ else h) = fun h : Hold => decide (h.c = x) := by
    funext h
    simp only [Function.comp]
    split <;> rfl
  rw [this]

theorem held_setFl (hs : List Hold) (c x : ByteArray) (v : Int) : (holdOf (setFl hs c v) x).isSome = (holdOf hs x).isSome := by rw [holdOf_setFl]; simp
theorem held_setLast (hs : List Hold) (c x : ByteArray) (v : Int) : (holdOf (setLast hs c v) x).isSome = (holdOf hs x).isSome := by rw [holdOf_setLast]; simp
theorem length_setFl (hs : List Hold) (c : ByteArray) (v : Int) : (setFl hs c v).length = hs.length := by simp [setFl]
theorem length_setLast (hs : List Hold) (c : ByteArray) (v : Int) : (setLast hs c v).length = hs.length := by simp [setLast]

theorem find_filter_skip {es : List Ent} {p q : Ent → Bool} (h : ∀ e ∈ es, q e = true → p e = true) : (es.filter p).find? q = es.find? q := by
  induction es with
  | nil => rfl
  | cons a r ih =>
    have ih' := ih (fun e he => h e (by simp [he]))
    by_cases hp : p a = true
    · rw [List.filter_cons_of_pos hp, List.find?_cons, List.find?_cons, ih']
    · rw [List.filter_cons_of_neg hp, List.find?_cons, ih']
      have : q a = false := by
        cases hq : q a
        · rfl
        · exact absurd (h a (by simp) hq) hp
      rw [this]

theorem findE_delE (es : List Ent) (c x : ByteArray) (s t : Int) : findE (delE es c s) x t = if x = c ∧ t = s then none else findE es x t := by
  by_cases h : x = c ∧ t = s
  · rw [if_pos h, findE_none]
    intro e he
    unfold delE at he
    rw [List.mem_filter] at he
    simp only [Bool.not_eq_true', decide_eq_false_iff_not] at he
    rintro ⟨h1, h2⟩
    exact he.2 ⟨h1.trans h.1, h2.trans h.2⟩
  · rw [if_neg h]
    unfold findE delE
    apply find_filter_skip
    intro e _ hq
    simp only [decide_eq_true_eq, Bool.not_eq_true', decide_eq_false_iff_not] at hq ⊢
    rintro ⟨h1, h2⟩
    exact h ⟨hq.1.symm.trans h1, hq.2.symm.trans h2⟩

theorem findE_dropE (es : List Ent) (c x : ByteArray) (low t : Int) : findE (dropE es c low) x t = if x = c ∧ t < low then none else findE es x t := by
  by_cases h : x = c ∧ t < low
  · rw [if_pos h, findE_none]
    intro e he
    unfold dropE at he
    rw [List.mem_filter] at he
    simp only [Bool.not_eq_true', decide_eq_false_iff_not] at he
    rintro ⟨h1, h2⟩
    exact he.2 ⟨h1.trans h.1, by omega⟩
  · rw [if_neg h]
    unfold findE dropE
    apply find_filter_skip
    intro e _ hq
    simp only [decide_eq_true_eq, Bool.not_eq_true', decide_eq_false_iff_not] at hq ⊢
    rintro ⟨h1, h2⟩
    exact h ⟨hq.1.symm.trans h1, by omega⟩

theorem NodE.filter {es : List Ent} (h : NodE es) (p : Ent → Bool) : NodE (es.filter p) := List.Pairwise.filter p h

theorem cnt_delE_other (es : List Ent) {c x : ByteArray} (s : Int) (h : x ≠ c) : cnt (delE es c s) x = cnt es x := by
  unfold cnt delE
  rw [List.filter_filter]
  congr 1
  apply List.filter_congr
  intro e _
  by_cases hx : e.c = x
  · simp [hx, h]
  · simp [hx]

theorem cnt_dropE_other (es : List Ent) {c x : ByteArray} (low : Int) (h : x ≠ c) : cnt (dropE es c low) x = cnt es x := by
  unfold cnt dropE
  rw [List.filter_filter]
  congr 1
  apply List.filter_congr
  intro e _
  by_cases hx : e.c = x
  · simp [hx, h]
  · simp [hx]

theorem delE_none {es : List Ent} {c : ByteArray} {s : Int} (h : findE es c s = none) : delE es c s = es := by
  unfold delE
  rw [List.filter_eq_self]
  intro e he
  have := findE_none.1 h e he
  simp only [Bool.not_eq_true', decide_eq_false_iff_not]
  exact this

/-- Striking the one entry that is there: one fewer, its bytes fewer. -/
theorem delE_one : ∀ {es : List Ent}, NodE es → ∀ {c : ByteArray} {s : Int} {e : Ent}, findE es c s = some e → cnt (delE es c s) c + 1 = cnt es c ∧ bytesE (delE es c s) + (e.val.length : Int) = bytesE es
  | [], _, _, _, _, h => by simp [findE] at h
  | a :: r, hn, c, s, e, h => by
    obtain ⟨h1, h2⟩ := List.pairwise_cons.1 hn
    unfold findE at h
    rw [List.find?_cons] at h
    by_cases hp : a.c = c ∧ a.seq = s
    · have hd : decide (a.c = c ∧ a.seq = s) = true := decide_eq_true hp
      rw [hd] at h
      simp at h
      subst h
      have hnone : findE r c s = none := by
        rw [findE_none]
        intro b hb hbc
        rcases h1 b hb with h' | h'
        · exact h' (hp.1.trans hbc.1.symm)
        · exact h' (hp.2.trans hbc.2.symm)
      have hdr : delE (a :: r) c s = r := by
        have e1 : delE (a :: r) c s = delE r c s := by
          unfold delE
          rw [List.filter_cons_of_neg (by simp [hp])]
        rw [e1, delE_none hnone]
      rw [hdr]
      constructor
      · unfold cnt
        rw [List.filter_cons_of_pos (by simp [hp.1])]
        simp
      · unfold bytesE
        simp
        omega
    · have hd : decide (a.c = c ∧ a.seq = s) = false := decide_eq_false hp
      rw [hd] at h
      obtain ⟨i1, i2⟩ := delE_one h2 (c := c) (s := s) (e := e) h
      have e1 : delE (a :: r) c s = a :: delE r c s := by
        unfold delE
        rw [List.filter_cons_of_pos (by simp only [Bool.not_eq_true', decide_eq_false_iff_not]; exact hp)]
      rw [e1]
      constructor
      · unfold cnt at *
        by_cases hc : a.c = c
        · rw [List.filter_cons_of_pos (by simp [hc]), List.filter_cons_of_pos (by simp [hc])]
          simp
          omega
        · rw [List.filter_cons_of_neg (by simp [hc]), List.filter_cons_of_neg (by simp [hc])]
          exact i1
      · unfold bytesE at *
        simp
        omega

theorem bytesE_nonneg (es : List Ent) : 0 ≤ bytesE es := by
  unfold bytesE
  induction es with
  | nil => simp
  | cons a r ih => simp; omega

end Go.Proofs.Qxb6617896a
