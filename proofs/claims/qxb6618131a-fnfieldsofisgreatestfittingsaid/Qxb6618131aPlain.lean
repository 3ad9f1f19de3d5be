/- Plain mathematics of the two laws on fieldsOf: no Go in sight. -/
namespace Go.Proofs.Qxb6618131a
set_option linter.unusedSectionVars false

section
variable {β : Type} [DecidableEq β]

/-- What fieldsOf has after i columns: the next field, and the fields given so far; or nothing where a column fell. -/
def greedy (H : Nat → β) (nh : Nat) (C : Nat → β) (opt : β → Bool) : Nat → Option (Nat × List Int)
  | 0 => some (0, [])
  | i + 1 => match greedy H nh C opt i with
    | none => none
    | some (nx, l) => if nx < nh ∧ H nx = C i then some (nx + 1, l ++ [(nx : Int)]) else if opt (C i) = true then some (nx, l ++ [-1]) else none

/-- The last d of m columns can be laid onto the header from field j on. -/
def fit (H : Nat → β) (nh : Nat) (C : Nat → β) (opt : β → Bool) (whole : Bool) (m : Nat) : Nat → Nat → Bool
  | 0, j => !whole || decide (j = nh)
  | d + 1, j => (opt (C (m - (d + 1))) && fit H nh C opt whole m d j) || (decide (j < nh) && decide (H j = C (m - (d + 1))) && fit H nh C opt whole m d (j + 1))

variable {H : Nat → β} {nh : Nat} {C : Nat → β} {opt : β → Bool} {whole : Bool} {m : Nat}

theorem fit_succ (d j : Nat) : fit H nh C opt whole m (d + 1) j = ((opt (C (m - (d + 1))) && fit H nh C opt whole m d j) || (decide (j < nh) && decide (H j = C (m - (d + 1))) && fit H nh C opt whole m d (j + 1))) := rfl

theorem fit_iff (d j : Nat) : fit H nh C opt whole m (d + 1) j = true ↔ (opt (C (m - (d + 1))) = true ∧ fit H nh C opt whole m d j = true) ∨ (j < nh ∧ H j = C (m - (d + 1)) ∧ fit H nh C opt whole m d (j + 1) = true) := by
  rw [fit_succ]
  simp [and_assoc]

/-- A field whose name is optional may be left to nobody. -/
theorem fit_drop : ∀ (d : Nat) {j : Nat}, j < nh → opt (H j) = true → fit H nh C opt whole m d j = true → fit H nh C opt whole m d (j + 1) = true
  | 0, j, hj, _, h => by
    cases whole
    · rfl
    · simp [fit] at h
      omega
  | d + 1, j, hj, ho, h => by
    rw [fit_iff] at h
    rw [fit_iff]
    rcases h with ⟨h1, h2⟩ | ⟨_, h2, h3⟩
    · exact .inl ⟨h1, fit_drop d hj ho h2⟩
    · exact .inl ⟨h2 ▸ ho, h3⟩

/-- Where the next field bears the column's name it may be taken. -/
theorem fit_take {d j : Nat} (hj : j < nh) (he : H j = C (m - (d + 1))) (h : fit H nh C opt whole m (d + 1) j = true) : fit H nh C opt whole m d (j + 1) = true := by
  rw [fit_iff] at h
  rcases h with ⟨h1, h2⟩ | ⟨_, _, h3⟩
  · exact fit_drop d hj (he ▸ h1) h2
  · exact h3

theorem greedy_succ {i nx : Nat} {l : List Int} (h : greedy H nh C opt i = some (nx, l)) :
    greedy H nh C opt (i + 1) = if nx < nh ∧ H nx = C i then some (nx + 1, l ++ [(nx : Int)]) else if opt (C i) = true then some (nx, l ++ [-1]) else none := by
  simp only [greedy, h]

theorem greedy_none {i : Nat} (h : greedy H nh C opt i = none) : greedy H nh C opt (i + 1) = none := by
  simp only [greedy, h]

theorem greedy_len : ∀ {i nx : Nat} {l : List Int}, greedy H nh C opt i = some (nx, l) → l.length = i ∧ nx ≤ i ∧ nx ≤ nh
  | 0, nx, l, h => by
    simp only [greedy, Option.some.injEq, Prod.mk.injEq] at h
    obtain ⟨rfl, rfl⟩ := h
    simp
  | i + 1, nx, l, h => by
    cases hg : greedy H nh C opt i with
    | none => rw [greedy_none hg] at h; cases h
    | some p =>
      obtain ⟨nx0, l0⟩ := p
      obtain ⟨h1, h2, h3⟩ := greedy_len hg
      rw [greedy_succ hg] at h
      split at h
      · rename_i hc
        simp only [Option.some.injEq, Prod.mk.injEq] at h
        obtain ⟨rfl, rfl⟩ := h
        simp
        omega
      · split at h
        · simp only [Option.some.injEq, Prod.mk.injEq] at h
          obtain ⟨rfl, rfl⟩ := h
          simp
          omega
        · cases h

theorem greedy_none_mono {i : Nat} (h : greedy H nh C opt i = none) : ∀ d, greedy H nh C opt (i + d) = none
  | 0 => h
  | d + 1 => greedy_none (greedy_none_mono h d)

theorem greedy_prefix {i nx : Nat} {lp : List Int} (hp : greedy H nh C opt i = some (nx, lp)) : ∀ (d : Nat) {N : Nat} {l : List Int}, greedy H nh C opt (i + d) = some (N, l) → ∃ r, l = lp ++ r
  | 0, N, l, h => by
    rw [Nat.add_zero, hp] at h
    simp only [Option.some.injEq, Prod.mk.injEq] at h
    exact ⟨[], by simp [h.2]⟩
  | d + 1, N, l, h => by
    cases hg : greedy H nh C opt (i + d) with
    | none => rw [← Nat.add_assoc, greedy_none hg] at h; cases h
    | some q =>
      obtain ⟨n0, l0⟩ := q
      obtain ⟨r, rfl⟩ := greedy_prefix hp d hg
      rw [← Nat.add_assoc, greedy_succ hg] at h
      split at h
      · simp only [Option.some.injEq, Prod.mk.injEq] at h
        exact ⟨r ++ [(n0 : Int)], by rw [← h.2]; simp⟩
      · split at h
        · simp only [Option.some.injEq, Prod.mk.injEq] at h
          exact ⟨r ++ [-1], by rw [← h.2]; simp⟩
        · cases h

/-- One column on, on a road that comes to its end. -/
theorem greedy_step {N p nx : Nat} {l lp : List Int} (hg : greedy H nh C opt m = some (N, l)) (hp : p < m) (hgp : greedy H nh C opt p = some (nx, lp)) :
    (nx < nh ∧ H nx = C p ∧ l.getD p 0 = (nx : Int) ∧ greedy H nh C opt (p + 1) = some (nx + 1, lp ++ [(nx : Int)])) ∨ (opt (C p) = true ∧ l.getD p 0 = -1 ∧ greedy H nh C opt (p + 1) = some (nx, lp ++ [-1])) := by
  have hlen := (greedy_len hgp).1
  cases hg1 : greedy H nh C opt (p + 1) with
  | none =>
    have := greedy_none_mono hg1 (m - (p + 1))
    rw [show p + 1 + (m - (p + 1)) = m by omega, hg] at this
    cases this
  | some q =>
    obtain ⟨n1, l1⟩ := q
    obtain ⟨r, hr⟩ := greedy_prefix hg1 (m - (p + 1)) (by rw [show p + 1 + (m - (p + 1)) = m by omega]; exact hg)
    rw [greedy_succ hgp] at hg1
    split at hg1
    · rename_i hc
      simp only [Option.some.injEq, Prod.mk.injEq] at hg1
      obtain ⟨rfl, rfl⟩ := hg1
      refine .inl ⟨hc.1, hc.2, ?_, rfl⟩
      rw [hr, ← hlen]
      simp
    · split at hg1
      · rename_i ho
        simp only [Option.some.injEq, Prod.mk.injEq] at hg1
        obtain ⟨rfl, rfl⟩ := hg1
        refine .inr ⟨ho, ?_, rfl⟩
        rw [hr, ← hlen]
        simp
      · cases hg1

theorem fit_skip {d j : Nat} (hne : ¬ (j < nh ∧ H j = C (m - (d + 1)))) (h : fit H nh C opt whole m (d + 1) j = true) : opt (C (m - (d + 1))) = true ∧ fit H nh C opt whole m d j = true := by
  rw [fit_iff] at h
  rcases h with h | ⟨h1, h2, _⟩
  · exact h
  · exact absurd ⟨h1, h2⟩ hne

/-- What can be laid, greedy lays. -/
theorem greedy_of_fit (h : fit H nh C opt whole m m 0 = true) : ∀ {i : Nat}, i ≤ m → ∃ nx l, greedy H nh C opt i = some (nx, l) ∧ fit H nh C opt whole m (m - i) nx = true
  | 0, _ => ⟨0, [], rfl, h⟩
  | i + 1, hi => by
    obtain ⟨nx, l, hg, hf⟩ := greedy_of_fit h (i := i) (by omega)
    have e : m - i = (m - (i + 1)) + 1 := by omega
    have e2 : m - ((m - (i + 1)) + 1) = i := by omega
    rw [e] at hf
    by_cases hc : nx < nh ∧ H nx = C i
    · exact ⟨nx + 1, l ++ [(nx : Int)], by rw [greedy_succ hg, if_pos hc], fit_take hc.1 (by rw [e2]; exact hc.2) hf⟩
    · have := fit_skip (by rw [e2]; exact hc) hf
      rw [e2] at this
      exact ⟨nx, l ++ [-1], by rw [greedy_succ hg, if_neg hc, if_pos this.1], this.2⟩

/-- What greedy lays can be laid. -/
theorem fit_of_greedy {nx : Nat} {l : List Int} (hg : greedy H nh C opt m = some (nx, l)) (hw : whole = true → nx = nh) : ∀ (d : Nat), d ≤ m → ∃ n' l', greedy H nh C opt (m - d) = some (n', l') ∧ fit H nh C opt whole m d n' = true
  | 0, _ => ⟨nx, l, hg, by cases whole <;> simp [fit]; exact hw rfl⟩
  | d + 1, hd => by
    obtain ⟨n1, l1, hg1, hf1⟩ := fit_of_greedy hg hw d (by omega)
    have e : m - d = (m - (d + 1)) + 1 := by omega
    rw [e] at hg1
    cases hg0 : greedy H nh C opt (m - (d + 1)) with
    | none => rw [greedy_none hg0] at hg1; cases hg1
    | some p =>
      obtain ⟨n0, l0⟩ := p
      rw [greedy_succ hg0] at hg1
      refine ⟨n0, l0, rfl, ?_⟩
      rw [fit_iff]
      split at hg1
      · rename_i hc
        simp only [Option.some.injEq, Prod.mk.injEq] at hg1
        obtain ⟨rfl, _⟩ := hg1
        exact .inr ⟨hc.1, hc.2, hf1⟩
      · split at hg1
        · rename_i ho
          simp only [Option.some.injEq, Prod.mk.injEq] at hg1
          obtain ⟨rfl, _⟩ := hg1
          exact .inl ⟨ho, hf1⟩
        · cases hg1

theorem fit_part_iff : fit H nh C opt false m m 0 = true ↔ ∃ nx l, greedy H nh C opt m = some (nx, l) := by
  constructor
  · intro h
    obtain ⟨nx, l, hg, _⟩ := greedy_of_fit h (Nat.le_refl m)
    exact ⟨nx, l, hg⟩
  · rintro ⟨nx, l, hg⟩
    obtain ⟨n', l', hg', hf⟩ := fit_of_greedy (whole := false) hg (fun h => by cases h) m (Nat.le_refl m)
    rw [Nat.sub_self] at hg'
    simp only [greedy, Option.some.injEq, Prod.mk.injEq] at hg'
    obtain ⟨rfl, _⟩ := hg'
    exact hf

theorem fit_whole_iff {nx : Nat} {l : List Int} (hg : greedy H nh C opt m = some (nx, l)) : fit H nh C opt true m m 0 = true ↔ nx = nh := by
  constructor
  · intro h
    obtain ⟨nx', l', hg', hf⟩ := greedy_of_fit h (Nat.le_refl m)
    rw [hg] at hg'
    simp only [Option.some.injEq, Prod.mk.injEq] at hg'
    obtain ⟨rfl, _⟩ := hg'
    rw [Nat.sub_self] at hf
    simpa [fit] using hf
  · intro h
    obtain ⟨n', l', hg', hf⟩ := fit_of_greedy (whole := true) hg (fun _ => h) m (Nat.le_refl m)
    rw [Nat.sub_self] at hg'
    simp only [greedy, Option.some.injEq, Prod.mk.injEq] at hg'
    obtain ⟨rfl, _⟩ := hg'
    exact hf

/-- At column i, field j, greedy and the table's reader choose alike. -/
theorem choose_alike {i nx : Nat} {l : List Int} (hp : fit H nh C opt false m m 0 = true) (hi : i < m) (hg : greedy H nh C opt i = some (nx, l)) :
    (nx < nh ∧ H nx = C i) ↔ (nx < nh ∧ H nx = C i ∧ fit H nh C opt false m (m - (i + 1)) (nx + 1) = true) := by
  constructor
  · intro hc
    obtain ⟨nx', l', hg', hf⟩ := greedy_of_fit hp (i := i) (by omega)
    rw [hg] at hg'
    simp only [Option.some.injEq, Prod.mk.injEq] at hg'
    obtain ⟨rfl, _⟩ := hg'
    have e : m - i = (m - (i + 1)) + 1 := by omega
    have e2 : m - ((m - (i + 1)) + 1) = i := by omega
    rw [e] at hf
    exact ⟨hc.1, hc.2, fit_take hc.1 (by rw [e2]; exact hc.2) hf⟩
  · exact fun h => ⟨h.1, h.2.1⟩

/-- The header that is left of the columns: those that are kept. -/
def left (C : Nat → β) (keep : Nat → Bool) : Nat → List β
  | 0 => []
  | i + 1 => if keep i = true then left C keep i ++ [C i] else left C keep i

theorem left_succ (keep : Nat → Bool) (i : Nat) : left C keep (i + 1) = if keep i = true then left C keep i ++ [C i] else left C keep i := rfl

theorem left_prefix (keep : Nat → Bool) : ∀ (d i : Nat), ∃ r, left C keep (i + d) = left C keep i ++ r
  | 0, i => ⟨[], by simp⟩
  | d + 1, i => by
    obtain ⟨r, hr⟩ := left_prefix keep d i
    show ∃ r, left C keep ((i + d) + 1) = _
    rw [left_succ]
    split
    · exact ⟨r ++ [C (i + d)], by rw [hr]; simp⟩
    · exact ⟨r, hr⟩

theorem left_len (keep : Nat → Bool) : ∀ (i : Nat), (left C keep i).length ≤ i
  | 0 => by simp [left]
  | i + 1 => by
    have := left_len keep i
    unfold left
    split
    · simp; omega
    · omega

variable [Inhabited β]

/-- The kept columns' header can be laid whole, if only optional columns are dropped. -/
theorem fit_left (keep : Nat → Bool) (hk : ∀ i, i < m → keep i = false → opt (C i) = true) :
    ∀ (d : Nat), d ≤ m → fit (fun i => (left C keep m).getD i default) (left C keep m).length C opt true m d (left C keep (m - d)).length = true
  | 0, _ => by simp [fit]
  | d + 1, hd => by
    have ih := fit_left keep hk d (by omega)
    have e : m - d = (m - (d + 1)) + 1 := by omega
    rw [e] at ih
    rw [fit_iff]
    cases hkp : keep (m - (d + 1)) with
    | true =>
      right
      have el : left C keep ((m - (d + 1)) + 1) = left C keep (m - (d + 1)) ++ [C (m - (d + 1))] := by
        show (if keep (m - (d + 1)) = true then _ else _) = _
        rw [if_pos hkp]
      obtain ⟨r, hr⟩ := left_prefix (C := C) keep d ((m - (d + 1)) + 1)
      have em : (m - (d + 1)) + 1 + d = m := by omega
      rw [em, el] at hr
      rw [el] at ih
      refine ⟨by rw [hr]; simp, ?_, by simpa using ih⟩
      show (left C keep m).getD (left C keep (m - (d + 1))).length default = _
      rw [hr]
      simp
    | false =>
      left
      have el : left C keep ((m - (d + 1)) + 1) = left C keep (m - (d + 1)) := by
        show (if keep (m - (d + 1)) = true then _ else _) = _
        rw [if_neg (by simp [hkp])]
      rw [el] at ih
      exact ⟨hk _ (by omega) hkp, ih⟩

theorem greedy_left (keep : Nat → Bool) (hk : ∀ i, i < m → keep i = false → opt (C i) = true) :
    ∃ l, greedy (fun i => (left C keep m).getD i default) (left C keep m).length C opt m = some ((left C keep m).length, l) := by
  have h := fit_left (opt := opt) keep hk m (Nat.le_refl m)
  rw [Nat.sub_self] at h
  obtain ⟨nx, l, hg, hf⟩ := greedy_of_fit h (Nat.le_refl m)
  rw [Nat.sub_self] at hf
  have : nx = (left C keep m).length := by simpa [fit] using hf
  exact ⟨l, by rw [hg, this]⟩

end
end Go.Proofs.Qxb6618131a
