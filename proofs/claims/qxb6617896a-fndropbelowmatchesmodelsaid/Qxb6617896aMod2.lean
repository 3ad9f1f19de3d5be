import Derived.Test.Qxb6617896aMod
namespace Go.Proofs.Qxb6617896a
open Go.ChangeShapes Go.WideShapes Go.ChangeAt Go.RowKit
attribute [local go_sem ↓] Go.wp_at_zero Go.wp_at_succ

def z83 : Value := .agg #[.string ⟨#[]⟩, .int .u64 0, .int .u64 0]
def z87 : Value := .agg #[.string ⟨#[]⟩, .int .u64 0, .int .u64 0, .slice none 0 0]
theorem info83 : (Try.prog.info? 83).map (fun i => (i.zero, i.size, i.bytes)) = some (some z83, 3, 32) := by kernel_rfl
theorem info87 : (Try.prog.info? 87).map (fun i => (i.zero, i.size, i.bytes)) = some (some z87, 4, 56) := by kernel_rfl

section
variable {ops : Array Oper} {rest : List Oper} {o : Oper} {a : Act} {Q : Exit → Act → World → Prop}

/-- append(holders, y). -/
theorem app83 {w : World} {base : Nat} {ha : Option Addr} {hc : Nat} {hs : List Hold} (y : Hold) (hgd : o.guard = none) (s x : Operand) (ho : o.op = .call { callee := .builtin .append, args := #[s, x], argTypes := #[55, 55] })
    (he : a.eval s = .slice ha hs.length hc) (hown : w.ownsRow base 83 3 (.slice ha hs.length hc) hs.length (hC hs)) (B : Nat) (hx : a.eval x = .slice (some ⟨B, 0, none⟩) 1 1) (hB : w.heap[B]? = some (.cells #[.string y.c, .int .u64 y.floor, .int .u64 y.last] 83 (0, 0)))
    (hlen : hs.length ≤ 1048576) (hbase : base ≤ w.heap.size)
    (h : ∀ g cap w', w'.ownsRow base 83 3 (.slice (some ⟨g, 0, none⟩) (hs.length + 1) cap) (hs.length + 1) (hC (hs ++ [y])) → w.grownBy w' (Value.slice ha hs.length hc).ownBlock → g < w'.heap.size → wpList Try.prog ops Q rest (a.put o.dst (.slice (some ⟨g, 0, none⟩) (hs.length + 1) cap)) w') : wpList Try.prog ops Q (o :: rest) a w := by
  obtain ⟨i0, hi, hz0, hz1, hz2⟩ := info_parts info83
  refine wpList_append_lies w hgd s x 55 ho base 83 i0 z83 3 32 Try.underlying55 hi hz0 hz1 hz2 rfl (by decide) _ hs.length (hC hs) he hown ⟨B, 0, none⟩ 1 1 (hC1 y) hx rfl (World.news_of_block hB) ?_ (by omega) (by unfold maxLen; omega) (by omega) hbase _ rfl ?_
  · intro u hu
    simp [hC1] at hu
    rcases hu with rfl | rfl | rfl <;> rfl
  · intro g cap w' h1 h2 _ h4
    refine h g cap w' ?_ h2 h4
    have : hC (hs ++ [y]) = hC hs ++ hC1 y := by simp [hC]
    rw [this]
    exact h1

/-- append(entries, y). -/
theorem app87 {w : World} {base : Nat} {ea : Option Addr} {ec : Nat} {ms : List ME} (y : ME) (hgd : o.guard = none) (s x : Operand) (ho : o.op = .call { callee := .builtin .append, args := #[s, x], argTypes := #[54, 54] })
    (he : a.eval s = .slice ea ms.length ec) (hown : w.ownsRow base 87 4 (.slice ea ms.length ec) ms.length (eC ms)) (B : Nat) (hx : a.eval x = .slice (some ⟨B, 0, none⟩) 1 1) (hB : w.heap[B]? = some (.cells #[.string y.e.c, .int .u64 y.e.seq, .int .u64 y.e.idx, .slice y.a y.e.val.length y.k] 87 (0, 0)))
    (hlen : ms.length ≤ 1048576) (hbase : base ≤ w.heap.size)
    (h : ∀ g cap w', w'.ownsRow base 87 4 (.slice (some ⟨g, 0, none⟩) (ms.length + 1) cap) (ms.length + 1) (eC (ms ++ [y])) → w.grownBy w' (Value.slice ea ms.length ec).ownBlock → g < w'.heap.size → wpList Try.prog ops Q rest (a.put o.dst (.slice (some ⟨g, 0, none⟩) (ms.length + 1) cap)) w') : wpList Try.prog ops Q (o :: rest) a w := by
  obtain ⟨i0, hi, hz0, hz1, hz2⟩ := info_parts info87
  refine wpList_append_lies w hgd s x 54 ho base 87 i0 z87 4 56 Try.underlying54 hi hz0 hz1 hz2 rfl (by decide) _ ms.length (eC ms) he hown ⟨B, 0, none⟩ 1 1 (eC1 y) hx rfl (World.news_of_block hB) ?_ (by omega) (by unfold maxLen; omega) (by omega) hbase _ rfl ?_
  · intro u hu
    simp [eC1] at hu
    rcases hu with rfl | rfl | rfl | rfl <;> rfl
  · intro g cap w' h1 h2 _ h4
    refine h g cap w' ?_ h2 h4
    have : eC (ms ++ [y]) = eC ms ++ eC1 y := by simp [eC]
    rw [this]
    exact h1

/-- append(kept, y), within the capacity. -/
theorem fit87 {w : World} {base g cap : Nat} {ms : List ME} (y : ME) (hgd : o.guard = none) (s x : Operand) (ho : o.op = .call { callee := .builtin .append, args := #[s, x], argTypes := #[54, 54] })
    (he : a.eval s = .slice (some ⟨g, 0, none⟩) ms.length cap) (hown : w.ownsRow base 87 4 (.slice (some ⟨g, 0, none⟩) ms.length cap) ms.length (eC ms)) (B : Nat) (hx : a.eval x = .slice (some ⟨B, 0, none⟩) 1 1) (hB : w.heap[B]? = some (.cells #[.string y.e.c, .int .u64 y.e.seq, .int .u64 y.e.idx, .slice y.a y.e.val.length y.k] 87 (0, 0)))
    (hfit : ms.length + 1 ≤ cap)
    (h : ∀ w', w'.ownsRow base 87 4 (.slice (some ⟨g, 0, none⟩) (ms.length + 1) cap) (ms.length + 1) (eC (ms ++ [y])) → w.grownBy w' (some g) → wpList Try.prog ops Q rest (a.put o.dst (.slice (some ⟨g, 0, none⟩) (ms.length + 1) cap)) w') : wpList Try.prog ops Q (o :: rest) a w := by
  obtain ⟨i0, hi, hz0, hz1, hz2⟩ := info_parts info87
  refine wpList_append_fits w hgd s x 54 ho base 87 i0 4 Try.underlying54 hi hz1 g ms.length cap (eC ms) he hown ⟨B, 0, none⟩ 1 1 (eC1 y) hx rfl (World.news_of_block hB) ?_ hfit ?_
  · intro u hu
    simp [eC1] at hu
    rcases hu with rfl | rfl | rfl | rfl <;> rfl
  · intro w' h1 h2
    refine h w' ?_ h2
    have : eC (ms ++ [y]) = eC ms ++ eC1 y := by simp [eC]
    rw [this]
    exact h1
theorem fit83 {w : World} {base g cap : Nat} {hs : List Hold} (y : Hold) (hgd : o.guard = none) (s x : Operand) (ho : o.op = .call { callee := .builtin .append, args := #[s, x], argTypes := #[55, 55] })
    (he : a.eval s = .slice (some ⟨g, 0, none⟩) hs.length cap) (hown : w.ownsRow base 83 3 (.slice (some ⟨g, 0, none⟩) hs.length cap) hs.length (hC hs)) (B : Nat) (hx : a.eval x = .slice (some ⟨B, 0, none⟩) 1 1) (hB : w.heap[B]? = some (.cells #[.string y.c, .int .u64 y.floor, .int .u64 y.last] 83 (0, 0)))
    (hfit : hs.length + 1 ≤ cap)
    (h : ∀ w', w'.ownsRow base 83 3 (.slice (some ⟨g, 0, none⟩) (hs.length + 1) cap) (hs.length + 1) (hC (hs ++ [y])) → w.grownBy w' (some g) → wpList Try.prog ops Q rest (a.put o.dst (.slice (some ⟨g, 0, none⟩) (hs.length + 1) cap)) w') : wpList Try.prog ops Q (o :: rest) a w := by
  obtain ⟨i0, hi, hz0, hz1, hz2⟩ := info_parts info83
  refine wpList_append_fits w hgd s x 55 ho base 83 i0 3 Try.underlying55 hi hz1 g hs.length cap (hC hs) he hown ⟨B, 0, none⟩ 1 1 (hC1 y) hx rfl (World.news_of_block hB) ?_ hfit ?_
  · intro u hu
    simp [hC1] at hu
    rcases hu with rfl | rfl | rfl <;> rfl
  · intro w' h1 h2
    refine h w' ?_ h2
    have : hC (hs ++ [y]) = hC hs ++ hC1 y := by simp [hC]
    rw [this]
    exact h1

/-- make([]zzEntry, 0, n). -/
theorem make87 : ∃ zc : Array Value, zc.size = 4 ∧ ∀ n : Nat, n ≤ 1048576 → ∀ w : World, (Instr.makeSlice 54 (.int .i64 0) (.int .i64 (n : Int))).run Try.prog w = .ok (.slice (some ⟨w.heap.size, 0, none⟩) 0 n) (w.alloc (.cells (madeCells zc (n * 4)) 87)) := by
  refine ⟨z87.cells, rfl, fun n hn w => ?_⟩
  obtain ⟨i, hi, hzz⟩ := Option.map_eq_some_iff.1 info87
  simp only [Prod.mk.injEq] at hzz
  obtain ⟨hz, hs, hb⟩ := hzz
  have hr := run_make (P := Try.prog) w 54 87 i z87 Try.underlying54 hi hz .i64 .i64 0 n (by omega) (by omega) (by rw [hb]; omega) (by omega)
  simp only [Int.toNat_natCast, hs] at hr
  exact hr
theorem make83 : ∃ zc : Array Value, zc.size = 3 ∧ ∀ n : Nat, n ≤ 1048576 → ∀ w : World, (Instr.makeSlice 55 (.int .i64 0) (.int .i64 (n : Int))).run Try.prog w = .ok (.slice (some ⟨w.heap.size, 0, none⟩) 0 n) (w.alloc (.cells (madeCells zc (n * 3)) 83)) := by
  refine ⟨z83.cells, rfl, fun n hn w => ?_⟩
  obtain ⟨i, hi, hzz⟩ := Option.map_eq_some_iff.1 info83
  simp only [Prod.mk.injEq] at hzz
  obtain ⟨hz, hs, hb⟩ := hzz
  have hr := run_make (P := Try.prog) w 55 83 i z83 Try.underlying55 hi hz .i64 .i64 0 n (by omega) (by omega) (by rw [hb]; omega) (by omega)
  simp only [Int.toNat_natCast, hs] at hr
  exact hr
end

theorem own_tag {w : World} {base : Nat} {e : TypeId} {size : Nat} {v : Value} {n : Nat} {xs : List Value} (h : w.ownsRow base e size v n xs) {g : Nat} (hg : v.ownBlock = some g) : base ≤ g ∧ ∃ cur, w.heap[g]? = some (.cells cur e (0, 0)) := by
  rcases h.2 with ⟨rfl, _⟩ | ⟨g', cap, cur, rfl, hb, hh, _⟩
  · simp [Value.ownBlock] at hg
  · simp [Value.ownBlock] at hg
    subst hg
    exact ⟨hb, cur, hh⟩
theorem own_ne {w : World} {base base' : Nat} {e e' : TypeId} {size size' : Nat} {v v' : Value} {n n' : Nat} {xs xs' : List Value} (h : w.ownsRow base e size v n xs) (h' : w.ownsRow base' e' size' v' n' xs') (hne : e ≠ e') : v.ownBlock = none ∨ v.ownBlock ≠ v'.ownBlock := by
  cases hv : v.ownBlock with
  | none => exact .inl rfl
  | some g =>
    right
    intro hv'
    obtain ⟨_, cur, h1⟩ := own_tag h hv
    obtain ⟨_, cur', h2⟩ := own_tag h' hv'.symm
    rw [h1] at h2
    simp at h2
    exact hne h2.2
theorem own_nb {w : World} {base : Nat} {e : TypeId} {size : Nat} {v : Value} {n : Nat} {xs : List Value} (h : w.ownsRow base e size v n xs) {mb : Nat} {c : Array Value} {t : TypeId} {f : Nat × Nat} (hb : w.heap[mb]? = some (.cells c t f)) (hne : t ≠ e) : some mb ≠ v.ownBlock := by
  intro hv
  obtain ⟨_, cur, h1⟩ := own_tag h hv.symm
  rw [hb] at h1
  simp at h1
  exact hne h1.2.1
theorem own_setMb {w : World} {base : Nat} {e : TypeId} {size : Nat} {v : Value} {n : Nat} {xs : List Value} (h : w.ownsRow base e size v n xs) {mb : Nat} (hne : some mb ≠ v.ownBlock) (o : Nat) (u : Value) : (w.setCell ⟨mb, o, none⟩ u).ownsRow base e size v n xs :=
  h.kept (row := some mb) ⟨rfl, rfl, rfl, by simp [World.setCell], fun k _ hk => heap_setCell_other w ⟨mb, o, none⟩ k u (fun e => hk (by simp [e]))⟩ (.inr (fun e => hne e.symm))

section
variable {w w1 : World} {mb base : Nat} {ms : List ME} {hs : List Hold} {ea : Option Addr} {ec : Nat} {ha : Option Addr} {hc : Nat}

/-- The holders' row grew. -/
theorem ModAt.gH (h : ModAt w mb base ms hs ea ec ha hc) (hg : w.grownBy w1 (Value.slice ha hs.length hc).ownBlock) : w1.heap[mb]? = some (.cells #[.slice ea ms.length ec, .slice ha hs.length hc] 57 (0, 0)) ∧ w1.ownsRow base 87 4 (.slice ea ms.length ec) ms.length (eC ms) :=
  ⟨(hg.block mb h.lt (own_nb h.hol h.str (by decide))).trans h.str, h.ent.kept hg (own_ne h.ent h.hol (by decide))⟩
theorem ModAt.gE (h : ModAt w mb base ms hs ea ec ha hc) (hg : w.grownBy w1 (Value.slice ea ms.length ec).ownBlock) : w1.heap[mb]? = some (.cells #[.slice ea ms.length ec, .slice ha hs.length hc] 57 (0, 0)) ∧ w1.ownsRow base 83 3 (.slice ha hs.length hc) hs.length (hC hs) :=
  ⟨(hg.block mb h.lt (own_nb h.ent h.str (by decide))).trans h.str, h.hol.kept hg (own_ne h.hol h.ent (by decide))⟩

theorem ModAt.storeH {hv : Value} {hs' : List Hold} {a' : Option Addr} {c' : Nat} (hstr : w1.heap[mb]? = some (.cells #[.slice ea ms.length ec, hv] 57 (0, 0))) (hent : w1.ownsRow base 87 4 (.slice ea ms.length ec) ms.length (eC ms)) (hhol : w1.ownsRow base 83 3 (.slice a' hs'.length c') hs'.length (hC hs')) (bas : base ≤ mb) :
    ModAt (w1.setCell ⟨mb, 1, none⟩ (.slice a' hs'.length c')) mb base ms hs' ea ec a' c' :=
  ⟨by rw [heap_setCell_same w1 mb 1 _ _ _ hstr]; rfl, own_setMb hent (own_nb hent hstr (by decide)) _ _, own_setMb hhol (own_nb hhol hstr (by decide)) _ _, bas⟩
theorem ModAt.storeE {ev : Value} {ms' : List ME} {a' : Option Addr} {c' : Nat} (hstr : w1.heap[mb]? = some (.cells #[ev, .slice ha hs.length hc] 57 (0, 0))) (hhol : w1.ownsRow base 83 3 (.slice ha hs.length hc) hs.length (hC hs)) (hent : w1.ownsRow base 87 4 (.slice a' ms'.length c') ms'.length (eC ms')) (bas : base ≤ mb) :
    ModAt (w1.setCell ⟨mb, 0, none⟩ (.slice a' ms'.length c')) mb base ms' hs a' c' ha hc :=
  ⟨by rw [heap_setCell_same w1 mb 0 _ _ _ hstr]; rfl, own_setMb hent (own_nb hent hstr (by decide)) _ _, own_setMb hhol (own_nb hhol hstr (by decide)) _ _, bas⟩
theorem own_ge {e : TypeId} {size : Nat} {v : Value} {n : Nat} {xs : List Value} (h : w.ownsRow base e size v n xs) : ∀ k, v.ownBlock = some k → base ≤ k := fun _ hk => (own_tag h hk).1
end

/-- Blocks of the model's own kinds: its struct, its rows. -/
def Tag (w : World) (k : Nat) : Prop := ∃ (c : Array Value) (t : TypeId) (f : Nat × Nat), w.heap[k]? = some (Obj.cells c t f) ∧ (t = 57 ∨ t = 83 ∨ t = 87)
def KeepT (w w' : World) : Prop := ∀ (k : Nat) (c : Array Value) (t : TypeId) (f : Nat × Nat), w.heap[k]? = some (Obj.cells c t f) → ¬ (t = 57 ∨ t = 83 ∨ t = 87) → w'.heap[k]? = w.heap[k]?
/-- Below base nothing turns; above it nothing but the model's own kinds. -/
structure Fr (base : Nat) (w w' : World) : Prop where
  b : Below base w w'
  t : KeepT w w'
theorem Fr.refl (base : Nat) (w : World) : Fr base w w := ⟨Below.refl _ _, fun _ _ _ _ _ _ => rfl⟩
theorem Fr.trans {base : Nat} {a b c : World} (h : Fr base a b) (h' : Fr base b c) : Fr base a c :=
  ⟨h.b.trans h'.b, fun k x t f hk ht => by
    have e := h.t k x t f hk ht
    exact (h'.t k x t f (e.trans hk) ht).trans e⟩
theorem Fr.of_below {base : Nat} {w w' : World} (h : Below w.heap.size w w') (hb : base ≤ w.heap.size) : Fr base w w' :=
  ⟨h.mono hb, fun k _ _ _ hk _ => h.block k (Array.getElem?_eq_some_iff.1 hk).1⟩
theorem Fr.alloc {base : Nat} {a w : World} (h : Fr base a w) (hb : base ≤ w.heap.size) (o : Obj) : Fr base a (w.alloc o) := h.trans (Fr.of_below ((Below.refl _ _).alloc (Nat.le_refl _) _) hb)
theorem Fr.grown {base : Nat} {a w w' : World} {row : Option Nat} (h : Fr base a w) (hg : w.grownBy w' row) (hB : base ≤ w.heap.size) (hr : ∀ k, row = some k → base ≤ k) (ht : ∀ k, row = some k → Tag w k) : Fr base a w' :=
  h.trans ⟨(Below.refl _ _).grown hg hB hr, fun k x t f hk h' => hg.block k (Array.getElem?_eq_some_iff.1 hk).1 (fun e => by
    obtain ⟨c, t', f', h1, h2⟩ := ht k e.symm
    rw [hk] at h1
    simp only [Option.some.injEq, Obj.cells.injEq] at h1
    exact h' (h1.2.1 ▸ h2))⟩
theorem Fr.setCell {base : Nat} {a w : World} (h : Fr base a w) {p : Addr} (hp : base ≤ p.block) (u : Value) (ht : Tag w p.block) : Fr base a (w.setCell p u) :=
  h.trans ⟨(Below.refl _ _).setCell hp u, fun k x t f hk h' => Below.heap_setCell _ _ _ _ (fun e => by
    obtain ⟨c, t', f', h1, h2⟩ := ht
    rw [show p.block = k from e.symm, hk] at h1
    simp only [Option.some.injEq, Obj.cells.injEq] at h1
    exact h' (h1.2.1 ▸ h2))⟩
theorem own_T83 {w : World} {base : Nat} {v : Value} {n : Nat} {xs : List Value} (h : w.ownsRow base 83 3 v n xs) : ∀ k, v.ownBlock = some k → Tag w k := fun k hk => by
  obtain ⟨_, cur, h1⟩ := own_tag h hk
  exact ⟨cur, 83, _, h1, .inr (.inl rfl)⟩
theorem own_T87 {w : World} {base : Nat} {v : Value} {n : Nat} {xs : List Value} (h : w.ownsRow base 87 4 v n xs) : ∀ k, v.ownBlock = some k → Tag w k := fun k hk => by
  obtain ⟨_, cur, h1⟩ := own_tag h hk
  exact ⟨cur, 87, _, h1, .inr (.inr rfl)⟩
theorem T57 {w : World} {k : Nat} {c : Array Value} {f : Nat × Nat} (h : w.heap[k]? = some (.cells c 57 f)) : Tag w k := ⟨c, 57, f, h, .inl rfl⟩

theorem hold_some_at {hs : List Hold} {c : ByteArray} {i : Nat} (hi : i < hs.length) (hc : (hAt hs i).c = c) : (holdOf hs c).isSome := by
  cases h : holdOf hs c with
  | some _ => rfl
  | none => exact absurd hc (holdOf_none.1 h _ (hAt_mem hi))

def RetHold (w w' : World) (mb base : Nat) (ms : List ME) (hs : List Hold) (c : ByteArray) (e : Ending) : Prop :=
  ∃ i : Nat, e = .returned (.int .i64 (i : Int)) ∧ i < (holdH hs c).length ∧ (hAt (holdH hs c) i).c = c ∧ ModX w' mb base ms (holdH hs c) ∧ Fr base w w'

set_option maxRecDepth 100000 in
/-- zzHold. -/
theorem zzHold {mb base : Nat} {ms : List ME} {hs : List Hold} (c : ByteArray) (w : World) (hl : hs.length ≤ 1048575) (h : ModX w mb base ms hs) :
    Calls Try.prog 50 #[.pointer (some ⟨mb, 0, none⟩), .string c] w fun e w' => RetHold w w' mb base ms hs c e := by
  obtain ⟨ea, ec, ha, hc, h⟩ := h
  have c1 := h.c1
  have hlt := h.lt
  have hbs := h.bas
  have hcap := own_cap h.hol
  have H := hide h
  unfold maxLen at hcap
  clear h
  go_enter Try.func50, Try.ntmps50
  go_wp2_with fail
  refine (zzHolderAt c w (by omega) ⟨ea, ec, ha, hc, H.out⟩).mono ?_
  rintro e w1 ⟨hr, rfl⟩
  rcases hr with ⟨hno, rfl⟩ | ⟨i, hi, hic, rfl⟩
  · have HNO := hide hno
    clear hno
    go_wp2_with (at_builtin; refine app83 (w := w1.alloc _) ⟨c, 0, 0⟩ rfl _ _ rfl rfl (H.out.hol.alloc _) w1.heap.size rfl (heap_alloc_new w1 _) (by omega) (Nat.le_trans (Nat.le_trans hbs (Nat.le_of_lt hlt)) (by simp)) ?_)
    intro g cap w2 hown2 hg2 hgl2
    have hg3 := (w1.grownBy_alloc _ _).trans hg2
    obtain ⟨hstr, hent⟩ := H.out.gH hg3
    have k1 : w2.cell? ⟨mb, 1, none⟩ = some (.slice ha hs.length hc) := by simp [World.cell?, hstr]
    have kf : w2.frozen? ⟨mb, 1, none⟩ = false := by simp [World.frozen?, hstr]
    have hml : mb < w2.heap.size := Nat.lt_of_lt_of_le hlt hg3.size
    have HSTR := hide hstr
    have HENT := hide hent
    have HOWN := hide hown2
    have HB : Hid (Fr base w1 w2) := (Fr.refl base w1).grown hg3 (by omega) (own_ge H.out.hol) (own_T83 H.out.hol)
    clear hg2 hg3 hstr hent hown2
    go_wp2
    go_ret
    have he : holdH hs c = hs ++ [⟨c, 0, 0⟩] := by unfold holdH; rw [HNO.out]; rfl
    refine ⟨hs.length, rfl, ?_, ?_, ?_, HB.out.setCell hbs _ (T57 HSTR.out)⟩
    · rw [he]; simp
    · rw [he]; simp [hAt]
    · rw [he]
      have hle : (hs ++ [(⟨c, 0, 0⟩ : Hold)]).length = hs.length + 1 := by simp
      have := ModAt.storeH (hs' := hs ++ [⟨c, 0, 0⟩]) (a' := some ⟨g, 0, none⟩) (c' := cap) HSTR.out HENT.out (by rw [hle]; exact HOWN.out) hbs
      rw [hle] at this
      exact ⟨_, _, _, _, this⟩
  · go_wp2
    go_ret
    have he : holdH hs c = hs := holdH_held (hold_some_at hi hic)
    rw [RetHold, he]
    exact ⟨i, rfl, hi, hic, ⟨_, _, _, _, H.out⟩, Fr.refl _ _⟩
end Go.Proofs.Qxb6617896a
