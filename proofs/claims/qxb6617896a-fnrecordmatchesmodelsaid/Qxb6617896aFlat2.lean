import Derived.Test.Qxb6617896aFlat
namespace Go.Proofs.Qxb6617896a

/-- The replaced entry. -/
def repl (c : ByteArray) (s i : Int) (v : List Int) (e : Ent) : Ent := if e.c = c ∧ e.seq = s then ⟨c, s, i, v⟩ else e

theorem putE_eq (es : List Ent) (c : ByteArray) (s i : Int) (v : List Int) : putE es c s i v = if (findE es c s).isSome then es.map (repl c s i v) else es ++ [⟨c, s, i, v⟩] := rfl

theorem repl_key (c : ByteArray) (s i : Int) (v : List Int) (e : Ent) : (repl c s i v e).c = e.c ∧ (repl c s i v e).seq = e.seq := by
  unfold repl
  split
  · rename_i h; exact ⟨h.1.symm, h.2.symm⟩
  · exact ⟨rfl, rfl⟩

theorem findE_map (es : List Ent) (c x : ByteArray) (s t i : Int) (v : List Int) : findE (es.map (repl c s i v)) x t = (findE es x t).map (repl c s i v) := by
  unfold findE
  rw [List.find?_map]
  have : ((fun e : Ent => decide (e.c = x ∧ e.seq = t)) ∘ repl c s i v) = fun e : Ent => decide (e.c = x ∧ e.seq = t) := by
    funext e
    simp only [Function.comp, (repl_key c s i v e).1, (repl_key c s i v e).2]
  rw [this]

theorem findE_putE (es : List Ent) (c x : ByteArray) (s t i : Int) (v : List Int) : findE (putE es c s i v) x t = if x = c ∧ t = s then some ⟨c, s, i, v⟩ else findE es x t := by
  rw [putE_eq]
  cases hf : findE es c s with
  | some e0 =>
    rw [if_pos (by simp), findE_map]
    by_cases h : x = c ∧ t = s
    · obtain ⟨rfl, rfl⟩ := h
      rw [hf, if_pos ⟨rfl, rfl⟩]
      have := findE_some hf
      simp [repl, this.2.1, this.2.2]
    · rw [if_neg h]
      cases hx : findE es x t with
      | none => rfl
      | some e =>
        have := findE_some hx
        have hne : ¬ (e.c = c ∧ e.seq = s) := fun h' => h ⟨this.2.1.symm.trans h'.1, this.2.2.symm.trans h'.2⟩
        simp [repl, hne]
  | none =>
    rw [if_neg (by simp)]
    unfold findE at *
    rw [List.find?_append]
    by_cases h : x = c ∧ t = s
    · obtain ⟨rfl, rfl⟩ := h
      rw [hf, if_pos ⟨rfl, rfl⟩]
      simp
    · rw [if_neg h]
      have : List.find? (fun e : Ent => decide (e.c = x ∧ e.seq = t)) [⟨c, s, i, v⟩] = none := by
        rw [List.find?_eq_none]
        intro e he
        simp at he
        subst he
        simp only [decide_eq_true_eq]
        exact fun h' => h ⟨h'.1.symm, h'.2.symm⟩
      rw [this]
      simp

theorem cnt_map (es : List Ent) (c x : ByteArray) (s i : Int) (v : List Int) : cnt (es.map (repl c s i v)) x = cnt es x := by
  unfold cnt
  rw [List.filter_map, List.length_map]
  congr 1
  apply List.filter_congr
  intro e _
  simp only [Function.comp, (repl_key c s i v e).1]

theorem cnt_append (es : List Ent) (x : ByteArray) (e : Ent) : cnt (es ++ [e]) x = if e.c = x then cnt es x + 1 else cnt es x := by
  unfold cnt
  rw [List.filter_append, List.length_append]
  by_cases h : e.c = x
  · simp [h]
  · simp [h]

theorem cnt_putE (es : List Ent) (c x : ByteArray) (s i : Int) (v : List Int) : cnt (putE es c s i v) x = if x = c ∧ findE es c s = none then cnt es x + 1 else cnt es x := by
  rw [putE_eq]
  cases hf : findE es c s with
  | some e0 => simp [cnt_map]
  | none =>
    rw [if_neg (by simp), cnt_append]
    by_cases h : x = c
    · subst h; simp
    · have h' : ¬ c = x := fun e => h e.symm
      simp [h, h']

theorem NodE.map : ∀ {es : List Ent}, NodE es → ∀ (c : ByteArray) (s i : Int) (v : List Int), NodE (es.map (repl c s i v))
  | [], _, _, _, _, _ => List.Pairwise.nil
  | a :: r, h, c, s, i, v => by
    obtain ⟨h1, h2⟩ := List.pairwise_cons.1 h
    refine List.pairwise_cons.2 ⟨fun b hb => ?_, NodE.map h2 c s i v⟩
    obtain ⟨b0, hb0, rfl⟩ := List.mem_map.1 hb
    rw [(repl_key c s i v a).1, (repl_key c s i v a).2, (repl_key c s i v b0).1, (repl_key c s i v b0).2]
    exact h1 b0 hb0

theorem NodE.put {es : List Ent} (h : NodE es) (c : ByteArray) (s i : Int) (v : List Int) : NodE (putE es c s i v) := by
  rw [putE_eq]
  cases hf : findE es c s with
  | some e0 => exact h.map c s i v
  | none =>
    rw [if_neg (by simp)]
    unfold NodE
    rw [List.pairwise_append]
    refine ⟨h, by simp, fun a ha b hb => ?_⟩
    simp at hb
    subst hb
    have := findE_none.1 hf a ha
    by_cases hc : a.c = c
    · exact .inr fun hs => this ⟨hc, hs⟩
    · exact .inl hc

theorem bytesE_cons (a : Ent) (r : List Ent) : bytesE (a :: r) = (a.val.length : Int) + bytesE r := by simp [bytesE]
theorem bytesE_append (es : List Ent) (e : Ent) : bytesE (es ++ [e]) = bytesE es + (e.val.length : Int) := by
  induction es with
  | nil => simp [bytesE]
  | cons a r ih => rw [List.cons_append, bytesE_cons, bytesE_cons, ih]; omega

theorem bytesE_map_none {es : List Ent} {c : ByteArray} {s : Int} (h : findE es c s = none) (i : Int) (v : List Int) : es.map (repl c s i v) = es := by
  conv => rhs; rw [← List.map_id es]
  apply List.map_congr_left
  intro e he
  have := findE_none.1 h e he
  simp [repl, this]

theorem bytesE_map : ∀ {es : List Ent}, NodE es → ∀ {c : ByteArray} {s : Int} {e : Ent}, findE es c s = some e → ∀ (i : Int) (v : List Int), bytesE (es.map (repl c s i v)) = bytesE es + (v.length : Int) - (e.val.length : Int)
  | [], _, _, _, _, h, _, _ => by simp [findE] at h
  | a :: r, hn, c, s, e, h, i, v => by
    obtain ⟨h1, h2⟩ := List.pairwise_cons.1 hn
    unfold findE at h
    rw [List.find?_cons] at h
    rw [List.map_cons, bytesE_cons, bytesE_cons]
    by_cases hp : a.c = c ∧ a.seq = s
    · have hd : decide (a.c = c ∧ a.seq = s) = true := decide_eq_true hp
      rw [hd] at h
      simp at h
      subst h
      have hnone : findE r c s = none := by
        rw [findE_none]
        intro b hb hbc
        rcases h1 b hb with h' | h'
        · exact h' (hp.1.trans hbc.1.symm)
        · exact h' (hp.2.trans hbc.2.symm)
      rw [bytesE_map_none hnone]
      simp only [repl, hp, and_self, if_true]
      omega
    · have hd : decide (a.c = c ∧ a.seq = s) = false := decide_eq_false hp
      rw [hd] at h
      have := bytesE_map h2 (c := c) (s := s) (e := e) h i v
      rw [this]
      simp only [repl, hp, if_false]
      omega

theorem bytesE_putE {es : List Ent} (hn : NodE es) (c : ByteArray) (s i : Int) (v : List Int) : bytesE (putE es c s i v) = bytesE es + (v.length : Int) - (match findE es c s with | some e => (e.val.length : Int) | none => 0) := by
  rw [putE_eq]
  cases hf : findE es c s with
  | some e => rw [if_pos (by simp)]; exact bytesE_map hn hf i v
  | none => rw [if_neg (by simp), bytesE_append]; simp

theorem NodH.mapC {f : Hold → Hold} (hf : ∀ h, (f h).c = h.c) : ∀ {hs : List Hold}, NodH hs → NodH (hs.map f)
  | [], _ => List.Pairwise.nil
  | a :: r, h => by
    obtain ⟨h1, h2⟩ := List.pairwise_cons.1 h
    refine List.pairwise_cons.2 ⟨fun b hb => ?_, NodH.mapC hf h2⟩
    obtain ⟨b0, hb0, rfl⟩ := List.mem_map.1 hb
    rw [hf, hf]
    exact h1 b0 hb0
theorem NodH.setFl {hs : List Hold} (h : NodH hs) (c : ByteArray) (x : Int) : NodH (setFl hs c x) := h.mapC (fun a => by split <;> rfl)
theorem NodH.setLast {hs : List Hold} (h : NodH hs) (c : ByteArray) (x : Int) : NodH (setLast hs c x) := h.mapC (fun a => by split <;> rfl)

end Go.Proofs.Qxb6617896a
