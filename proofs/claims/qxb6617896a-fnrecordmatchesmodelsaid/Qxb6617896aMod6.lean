import Derived.Test.Qxb6617896aMod5
import Derived.Deep.RegionHeldLaw
namespace Go.Proofs.Qxb6617896a
open Go.ChangeShapes Go.WideShapes Go.ChangeAt Go.RowKit
attribute [local go_sem ↓] Go.wp_at_zero Go.wp_at_succ

section
/-- The first k mapped. -/
def mapK (ms : List ME) (f : ME → ME) (k : Nat) : List ME := (ms.take k).map f ++ ms.drop k
theorem mapK_zero (ms : List ME) (f : ME → ME) : mapK ms f 0 = ms := by simp [mapK]
theorem mapK_all (ms : List ME) (f : ME → ME) : mapK ms f ms.length = ms.map f := by simp [mapK]
theorem mapK_len (ms : List ME) (f : ME → ME) (k : Nat) : (mapK ms f k).length = ms.length := by
  simp [mapK]
  omega
theorem mapK_get (ms : List ME) (f : ME → ME) (k j : Nat) : (mapK ms f k)[j]? = if j < k then (ms[j]?).map f else ms[j]? := by
  unfold mapK
  by_cases hj : j < k
  · rw [if_pos hj]
    by_cases hl : j < ms.length
    · rw [List.getElem?_append_left (by simp; omega), List.getElem?_map, List.getElem?_take, if_pos hj]
    · rw [List.getElem?_eq_none (by simp; omega), List.getElem?_eq_none (by omega)]
      rfl
  · rw [if_neg hj]
    by_cases hl : k ≤ ms.length
    · rw [List.getElem?_append_right (by simp; omega), List.getElem?_drop]
      congr 1
      simp
      omega
    · rw [List.getElem?_eq_none (by simp; omega), List.getElem?_eq_none (by omega)]
theorem mapK_at {ms : List ME} (f : ME → ME) {k : Nat} (hk : k < ms.length) : mAt (mapK ms f k) k = mAt ms k := by
  have h1 := mAt_some (ms := mapK ms f k) (j := k) (by rw [mapK_len]; exact hk)
  rw [mapK_get, if_neg (by omega), mAt_some hk] at h1
  exact (Option.some.inj h1).symm
theorem mapK_succ {ms : List ME} (f : ME → ME) {k : Nat} (hk : k < ms.length) : mapK ms f (k + 1) = (mapK ms f k).set k (f (mAt ms k)) := by
  apply List.ext_getElem?
  intro j
  rw [List.getElem?_set, mapK_get, mapK_get, mapK_len]
  by_cases e : k = j
  · subst e
    rw [if_pos (by omega), if_pos rfl, if_pos hk, mAt_some hk]
    rfl
  · rw [if_neg e]
    by_cases h : j < k
    · rw [if_pos (by omega), if_pos h]
    · rw [if_neg (by omega), if_neg h]
theorem mapK_same {ms : List ME} (f : ME → ME) {k : Nat} (hk : k < ms.length) (hf : f (mAt ms k) = mAt ms k) : mapK ms f (k + 1) = mapK ms f k := by
  rw [mapK_succ f hk, hf]
  apply List.ext_getElem?
  intro j
  rw [List.getElem?_set, mapK_len]
  by_cases e : k = j
  · subst e
    rw [if_pos rfl, if_pos hk, mapK_get, if_neg (by omega), mAt_some hk]
  · rw [if_neg e]
end

/-- The new entry. -/
def newM (X : Stp) (a : Option Addr) (K : Nat) : ME := ⟨⟨X.c, X.seq, X.idx, X.val⟩, a, K⟩
def isM (X : Stp) (m : ME) : Prop := m.e.c = X.c ∧ m.e.seq = X.seq
instance (X : Stp) (m : ME) : Decidable (isM X m) := by unfold isM; infer_instance
def rpM (X : Stp) (a : Option Addr) (K : Nat) (m : ME) : ME := if isM X m then newM X a K else m
def putM (ms : List ME) (X : Stp) (a : Option Addr) (K : Nat) : List ME := if (findE (ms.map ME.e) X.c X.seq).isSome then ms.map (rpM X a K) else ms ++ [newM X a K]
theorem putM_map (ms : List ME) (X : Stp) (a : Option Addr) (K : Nat) : (putM ms X a K).map ME.e = putE (ms.map ME.e) X.c X.seq X.idx X.val := by
  unfold putM putE
  split
  · rw [List.map_map, List.map_map]
    congr 1
    funext m
    simp only [Function.comp, rpM]
    by_cases h : isM X m
    · rw [if_pos h, if_pos (show m.e.c = X.c ∧ m.e.seq = X.seq from h)]
      rfl
    · rw [if_neg h, if_neg (show ¬ (m.e.c = X.c ∧ m.e.seq = X.seq) from h)]
  · simp [newM]
theorem mem_putM {ms : List ME} {X : Stp} {a : Option Addr} {K : Nat} {m : ME} (h : m ∈ putM ms X a K) : m ∈ ms ∨ m = newM X a K := by
  unfold putM at h
  split at h
  · obtain ⟨y, hy, rfl⟩ := List.mem_map.1 h
    unfold rpM
    split
    · exact .inr rfl
    · exact .inl hy
  · rcases List.mem_append.1 h with h' | h'
    · exact .inl h'
    · exact .inr (by simpa using h')

def bx51 (X : Stp) (a : Option Addr) (K : Nat) : Obj := .cells #[.string X.c, .int .u64 X.seq, .int .u64 X.low, .int .u64 X.idx, .slice a X.val.length K] 51

/-- In zzModelRecord: the model, the frame, the box. -/
structure A43 (w wr : World) (mb base B : Nat) (X : Stp) (a : Option Addr) (K : Nat) (ms : List ME) (hs : List Hold) : Prop where
  m : ModX wr mb base ms hs
  f : Fr base w wr
  b : wr.heap[B]? = some (bx51 X a K)
  l : base ≤ wr.heap.size

theorem A43.below {w wr w' : World} {mb base B : Nat} {X : Stp} {a : Option Addr} {K : Nat} {ms : List ME} {hs : List Hold} (h : A43 w wr mb base B X a K ms hs) (hb : Below wr.heap.size wr w') : A43 w w' mb base B X a K ms hs :=
  ⟨h.m.below hb, h.f.trans (Fr.of_below hb h.l), (hb.block B (Array.getElem?_eq_some_iff.1 h.b).1).trans h.b, Nat.le_trans h.l hb.size⟩

def BoxAt (wr : World) (B : Nat) (X : Stp) (a : Option Addr) (K : Nat) : Prop :=
  wr.cell? ⟨B, 0, none⟩ = some (.string X.c) ∧ wr.cell? ⟨B, 1, none⟩ = some (.int .u64 X.seq) ∧ wr.cell? ⟨B, 2, none⟩ = some (.int .u64 X.low) ∧ wr.cell? ⟨B, 3, none⟩ = some (.int .u64 X.idx) ∧ wr.cell? ⟨B, 4, none⟩ = some (.slice a X.val.length K) ∧ B < wr.heap.size
theorem A43.box {w wr : World} {mb base B : Nat} {X : Stp} {a : Option Addr} {K : Nat} {ms : List ME} {hs : List Hold} (h : A43 w wr mb base B X a K ms hs) : BoxAt wr B X a K := by
  have hb := h.b
  unfold bx51 at hb
  exact ⟨by simp [World.cell?, hb], by simp [World.cell?, hb], by simp [World.cell?, hb], by simp [World.cell?, hb], by simp [World.cell?, hb], (Array.getElem?_eq_some_iff.1 hb).1⟩
theorem A43.ne {w wr : World} {mb base B : Nat} {X : Stp} {a : Option Addr} {K : Nat} {ms : List ME} {hs : List Hold} (h : A43 w wr mb base B X a K ms hs) {k : Nat} (ht : Tag wr k) : k ≠ B := by
  intro e
  subst e
  obtain ⟨c, t, f, h1, h2⟩ := ht
  rw [h.b] at h1
  unfold bx51 at h1
  simp only [Option.some.injEq, Obj.cells.injEq] at h1
  obtain ⟨_, rfl, _⟩ := h1
  rcases h2 with h2 | h2 | h2 <;> exact absurd h2 (by decide)

/-- Was one of the first k the same key? -/
def Fnd (ms : List ME) (X : Stp) (k : Nat) (f : Bool) : Prop := f = true ↔ ∃ j, j < k ∧ isM X (mAt ms j)
theorem Fnd.all {ms : List ME} {X : Stp} {f : Bool} (h : Fnd ms X ms.length f) : f = (findE (ms.map ME.e) X.c X.seq).isSome := by
  have key : (findE (ms.map ME.e) X.c X.seq).isSome = true ↔ ∃ j, j < ms.length ∧ isM X (mAt ms j) := by
    constructor
    · intro h
      obtain ⟨e, he⟩ := Option.isSome_iff_exists.1 h
      obtain ⟨hm, hc, hs⟩ := findE_some he
      obtain ⟨m, hm', rfl⟩ := List.mem_map.1 hm
      obtain ⟨j, hj, e'⟩ := List.getElem_of_mem hm'
      refine ⟨j, hj, ?_⟩
      have : mAt ms j = m := by unfold mAt; simp [hj, e']
      rw [this]
      exact ⟨hc, hs⟩
    · rintro ⟨j, hj, hc, hs⟩
      cases hf : findE (ms.map ME.e) X.c X.seq with
      | some _ => rfl
      | none => exact absurd ⟨hc, hs⟩ (findE_none.1 hf _ (List.mem_map.2 ⟨_, mAt_mem hj, rfl⟩))
  have := h.trans key.symm
  revert this
  cases f <;> cases (findE (ms.map ME.e) X.c X.seq).isSome <;> simp

theorem Fnd.no {ms : List ME} {X : Stp} {k : Nat} {f : Bool} (h : Fnd ms X k f) (hn : ¬ isM X (mAt ms k)) : Fnd ms X (k + 1) f :=
  h.trans ⟨fun ⟨j, hj, hi⟩ => ⟨j, by omega, hi⟩, fun ⟨j, hj, hi⟩ => by
    by_cases e : j = k
    · subst e; exact absurd hi hn
    · exact ⟨j, by omega, hi⟩⟩
theorem Fnd.yes {ms : List ME} {X : Stp} {k : Nat} (hy : isM X (mAt ms k)) : Fnd ms X (k + 1) true := ⟨fun _ => ⟨k, by omega, hy⟩, fun _ => rfl⟩

/-- Both stores into entry k. -/
theorem A43.put {w wr : World} {mb base B g k ec : Nat} {ha : Option Addr} {hc : Nat} {X : Stp} {a : Option Addr} {K : Nat} {ms : List ME} {hs : List Hold} (h : A43 w wr mb base B X a K ms hs) (hM : ModAt wr mb base ms hs (some ⟨g, 0, none⟩) ec ha hc) (hk : k < ms.length) (hi : isM X (mAt ms k)) :
    A43 w ((wr.setCell ⟨g, k * 4 + 2, none⟩ (.int .u64 X.idx)).setCell ⟨g, k * 4 + 3, none⟩ (.slice a X.val.length K)) mb base B X a K (ms.set k (newM X a K)) hs := by
  have hT : Tag wr g := own_T87 hM.ent g rfl
  have hgB : g ≠ B := h.ne hT
  have hbg : base ≤ g := (own_block hM.ent).1
  let y1 : ME := ⟨⟨(mAt ms k).e.c, (mAt ms k).e.seq, X.idx, (mAt ms k).e.val⟩, (mAt ms k).a, (mAt ms k).k⟩
  have h1 := hM.setE1 (t := 2) (y := y1) (u := .int .u64 X.idx) hk (by omega) rfl
  have hy : mAt (ms.set k y1) k = y1 := by unfold mAt; simp [hk]
  have h2 := h1.setE1 (t := 3) (i := k) (y := newM X a K) (u := .slice a X.val.length K) (by simpa using hk) (by omega) (by rw [hy]; simp [eC1, newM, y1, hi.1, hi.2])
  rw [List.set_set] at h2
  refine ⟨⟨_, _, _, _, h2⟩, (h.f.setCell hbg _ hT).setCell hbg _ (own_T87 h1.ent g rfl), ?_, by simp [World.setCell]; exact h.l⟩
  rw [Below.heap_setCell _ _ _ _ (fun e => hgB e.symm), Below.heap_setCell _ _ _ _ (fun e => hgB e.symm)]
  exact h.b

section
variable {ops : Array Oper} {o : Oper} {a : Act} {Q : Exit → Act → World → Prop} {K : Act → World → Prop} {E : Prop}
/-- append(entries, y), in a region that draws. -/
theorem step87 {w : World} {base : Nat} {ea : Option Addr} {ec : Nat} {ms : List ME} (y : ME) (hgd : o.guard = none) (s x : Operand) (ho : o.op = .call { callee := .builtin .append, args := #[s, x], argTypes := #[54, 54] })
    (he : a.eval s = .slice ea ms.length ec) (hown : w.ownsRow base 87 4 (.slice ea ms.length ec) ms.length (eC ms)) (B : Nat) (hx : a.eval x = .slice (some ⟨B, 0, none⟩) 1 1) (hB : w.heap[B]? = some (.cells #[.string y.e.c, .int .u64 y.e.seq, .int .u64 y.e.idx, .slice y.a y.e.val.length y.k] 87 (0, 0)))
    (hlen : ms.length ≤ 1048576) (hbase : base ≤ w.heap.size)
    (h : ∀ g cap w', w'.ownsRow base 87 4 (.slice (some ⟨g, 0, none⟩) (ms.length + 1) cap) (ms.length + 1) (eC (ms ++ [y])) → w.grownBy w' (Value.slice ea ms.length ec).ownBlock → g < w'.heap.size → K (a.put o.dst (.slice (some ⟨g, 0, none⟩) (ms.length + 1) cap)) w') :
    if Region.wanted o (yielded ops a.tmps) = true then Oper.wp Try.prog o a w K Q else E := by
  obtain ⟨i0, hi, hz0, hz1, hz2⟩ := info_parts info87
  refine step_append_lies w hgd s x 54 ho base 87 i0 z87 4 56 Try.underlying54 hi hz0 hz1 hz2 rfl (by decide) _ ms.length (eC ms) he hown ⟨B, 0, none⟩ 1 1 (eC1 y) hx rfl (World.news_of_block hB) ?_ (by omega) (by unfold maxLen; omega) (by omega) hbase _ rfl ?_
  · intro u hu
    simp [eC1] at hu
    rcases hu with rfl | rfl | rfl | rfl <;> rfl
  · intro g cap w' h1 h2 _ h4
    refine h g cap w' ?_ h2 h4
    have : eC (ms ++ [y]) = eC ms ++ eC1 y := by simp [eC]
    rw [this]
    exact h1
end

theorem map_rpM {ms : List ME} {X : Stp} {a : Option Addr} {K : Nat} (h : (findE (ms.map ME.e) X.c X.seq).isSome = false) : ms.map (rpM X a K) = ms := by
  have hn : findE (ms.map ME.e) X.c X.seq = none := by simpa using h
  conv => rhs; rw [← List.map_id ms]
  apply List.map_congr_left
  intro m hm
  have hni : ¬ isM X m := fun h' => findE_none.1 hn m.e (List.mem_map.2 ⟨m, hm, rfl⟩) h'
  unfold rpM
  rw [if_neg hni]
  rfl

/-- Behind the append, ahead of the store. -/
theorem A43.app {w wp w6 : World} {mb base B ec : Nat} {ea ha : Option Addr} {hc : Nat} {X : Stp} {a : Option Addr} {K : Nat} {ms : List ME} {hs : List Hold} {o : Obj} (h : A43 w wp mb base B X a K ms hs) (hM : ModAt wp mb base ms hs ea ec ha hc) (hg : (wp.alloc o).drew.grownBy w6 (Value.slice ea ms.length ec).ownBlock) :
    w6.cell? ⟨mb, 0, none⟩ = some (.slice ea ms.length ec) ∧ w6.frozen? ⟨mb, 0, none⟩ = false ∧ mb < w6.heap.size ∧ w6.cell? ⟨B, 0, none⟩ = some (.string X.c) ∧ w6.cell? ⟨B, 1, none⟩ = some (.int .u64 X.seq) ∧ w6.cell? ⟨B, 3, none⟩ = some (.int .u64 X.idx) ∧ w6.cell? ⟨B, 4, none⟩ = some (.slice a X.val.length K) ∧
      Hid (w6.heap[mb]? = some (.cells #[.slice ea ms.length ec, .slice ha hs.length hc] 57 (0, 0)) ∧ w6.ownsRow base 83 3 (.slice ha hs.length hc) hs.length (hC hs)) ∧ Hid (w6.heap[B]? = some (bx51 X a K)) ∧ Hid (Fr base w w6) := by
  have hg0 : (wp.alloc o).grownBy w6 (Value.slice ea ms.length ec).ownBlock := ⟨hg.os, hg.tape, hg.output, hg.size, hg.block⟩
  have hg7 : wp.grownBy w6 (Value.slice ea ms.length ec).ownBlock := (wp.grownBy_alloc _ _).trans hg0
  have hE6 := hM.gE hg7
  have hb := h.b
  unfold bx51 at hb
  have hb6 := (hg7.block B (Array.getElem?_eq_some_iff.1 hb).1 (own_nb hM.ent hb (by decide))).trans hb
  exact ⟨by simp [World.cell?, hE6.1], by simp [World.frozen?, hE6.1], Nat.lt_of_lt_of_le hM.lt hg7.size, by simp [World.cell?, hb6], by simp [World.cell?, hb6], by simp [World.cell?, hb6], by simp [World.cell?, hb6], hE6, hb6, h.f.grown hg7 h.l (own_ge hM.ent) (own_T87 hM.ent)⟩

theorem A43.app2 {w w6 : World} {mb base B ec g cap : Nat} {ea ha : Option Addr} {hc : Nat} {X : Stp} {a : Option Addr} {K : Nat} {ms : List ME} {hs : List Hold} {y : ME} (hE : w6.heap[mb]? = some (.cells #[.slice ea ms.length ec, .slice ha hs.length hc] 57 (0, 0)) ∧ w6.ownsRow base 83 3 (.slice ha hs.length hc) hs.length (hC hs)) (hb : w6.heap[B]? = some (bx51 X a K)) (hf : Fr base w w6) (hbm : base ≤ mb) (hne : B ≠ mb)
    (hown : w6.ownsRow base 87 4 (.slice (some ⟨g, 0, none⟩) (ms.length + 1) cap) (ms.length + 1) (eC (ms ++ [y]))) : A43 w (w6.setCell ⟨mb, 0, none⟩ (.slice (some ⟨g, 0, none⟩) (ms.length + 1) cap)) mb base B X a K (ms ++ [y]) hs := by
  have hle : (ms ++ [y]).length = ms.length + 1 := by simp
  have h1 := ModAt.storeE (ms' := ms ++ [y]) (a' := some ⟨g, 0, none⟩) (c' := cap) hE.1 hE.2 (by rw [hle]; exact hown) hbm
  rw [hle] at h1
  refine ⟨⟨_, _, _, _, h1⟩, hf.setCell hbm _ (T57 hE.1), (Below.heap_setCell _ _ _ _ hne).trans hb, ?_⟩
  have := (Array.getElem?_eq_some_iff.1 hE.1).1
  simp [World.setCell]
  omega

theorem A43.setH1 {w wr : World} {mb base B g i t ec : Nat} {ea : Option Addr} {hc : Nat} {X : Stp} {a : Option Addr} {K : Nat} {ms : List ME} {hs : List Hold} {y : Hold} {u : Value} (h : A43 w wr mb base B X a K ms hs) (hM : ModAt wr mb base ms hs ea ec (some ⟨g, 0, none⟩) hc) (hi : i < hs.length) (ht : t < 3) (hy : hC1 y = (hC1 (hAt hs i)).set t u) :
    A43 w (wr.setCell ⟨g, i * 3 + t, none⟩ u) mb base B X a K ms (hs.set i y) := by
  have hT : Tag wr g := own_T83 hM.hol g rfl
  have hgB : g ≠ B := h.ne hT
  refine ⟨⟨_, _, _, _, hM.setH1 hi ht hy⟩, h.f.setCell (own_block hM.hol).1 _ hT, ?_, by simp [World.setCell]; exact h.l⟩
  rw [Below.heap_setCell _ _ _ _ (fun e => hgB e.symm)]
  exact h.b

theorem set_same {hs : List Hold} {i : Nat} (hi : i < hs.length) : hs.set i (hAt hs i) = hs := by
  apply List.ext_getElem?
  intro j
  rw [List.getElem?_set]
  by_cases e : i = j
  · subst e
    rw [if_pos rfl, if_pos hi, hAt_some hi]
  · rw [if_neg e]

theorem oldest_of {es : List Ent} {hs : List Hold} {T : Nat → Stp} {k m b : Nat} (g : GoodS es hs T k m) (hb : b < hs.length) (hmin : ∀ j, j < hs.length → (hAt hs b).last ≤ (hAt hs j).last) : Oldest es hs (hAt hs b).c := by
  refine ⟨hold_some_at hb rfl, fun x hx y hy z hz => ?_⟩
  have h1 := hx.one (g.nw _ (hAt_mem hb)).1
  obtain ⟨h, hh⟩ := Option.isSome_iff_exists.1 hy
  obtain ⟨hm, hc⟩ := holdOf_some hh
  obtain ⟨j, hj, e⟩ := List.getElem_of_mem hm
  have he : hAt hs j = h := by unfold hAt; simp [hj, e]
  have h2 := (g.nw h hm).1
  rw [hc] at h2
  have h3 := hz.one h2
  have h4 := hmin j hj
  rw [he] at h4
  omega

theorem hAt_set {hs : List Hold} {i : Nat} (hi : i < hs.length) (y : Hold) : hAt (hs.set i y) i = y := by
  unfold hAt
  simp [hi]

def hLenAt (w : World) (mb : Nat) : Nat := match w.cell? ⟨mb, 1, none⟩ with | some (.slice _ n _) => n | _ => 0
theorem hLenAt_of {w : World} {mb base : Nat} {ms : List ME} {hs : List Hold} (h : ModX w mb base ms hs) : hLenAt w mb = hs.length := by
  obtain ⟨_, _, _, _, h⟩ := h
  unfold hLenAt
  rw [h.c1]

/-- The eviction has not run, or has run once. -/
def St2 (m2 : List ME) (h3 : List Hold) (ms' : List ME) (hs' : List Hold) : Prop := (ms' = m2 ∧ hs' = h3) ∨ (1024 < h3.length ∧ ∃ o, Oldest (m2.map ME.e) h3 o ∧ ms' = minusM m2 o ∧ hs' = minusH h3 o)

theorem St2.bd {m2 : List ME} {h3 : List Hold} {ms' : List ME} {hs' : List Hold} {T : Nat → Stp} {n : Nat} (h : St2 m2 h3 ms' hs') (g : GoodS (m2.map ME.e) h3 T n 1025) : (1024 < hs'.length → ms' = m2 ∧ hs' = h3) ∧ hs'.length ≤ 1025 ∧ ms'.length ≤ n ∧ bytesE (ms'.map ME.e) ≤ (vtot T n : Int) := by
  have h1 := g.len
  have h2 : m2.length ≤ n := by have := g.elen; simpa using this
  rcases h with ⟨rfl, rfl⟩ | ⟨h3', o, ho, rfl, rfl⟩
  · exact ⟨fun _ => ⟨rfl, rfl⟩, h1, h2, g.byt⟩
  · have h4 := length_minusH g.nodH ho.1
    refine ⟨fun h5 => by omega, by omega, Nat.le_trans (List.length_filter_le _ _) h2, ?_⟩
    rw [minusM_map]
    exact Int.le_trans (bytesE_filter_le _ _) g.byt

theorem St2.ev {m2 : List ME} {h3 : List Hold} {ms' : List ME} {hs' : List Hold} {T : Nat → Stp} {n : Nat} (h : St2 m2 h3 ms' hs') (g : GoodS (m2.map ME.e) h3 T n 1025) (hl : hs'.length ≤ 1024) : Ev (m2.map ME.e) h3 (ms'.map ME.e) hs' := by
  rcases h with ⟨rfl, rfl⟩ | ⟨h3', o, ho, rfl, rfl⟩
  · exact .inl ⟨hl, rfl, rfl⟩
  · exact .inr ⟨h3', o, ho, minusM_map _ _, rfl⟩

theorem St2.mem {m2 : List ME} {h3 : List Hold} {ms' : List ME} {hs' : List Hold} (h : St2 m2 h3 ms' hs') {m : ME} (hm : m ∈ ms') : m ∈ m2 := by
  rcases h with ⟨rfl, rfl⟩ | ⟨h3', o, ho, rfl, rfl⟩
  · exact hm
  · exact (List.mem_filter.1 hm).1

def Ret43 (w w' : World) (mb base : Nat) (ms : List ME) (hs : List Hold) (X : Stp) (a : Option Addr) (K : Nat) (e : Ending) : Prop :=
  e = .returned (.tuple #[]) ∧ ∃ ms' hs', ModX w' mb base ms' hs' ∧ Fr base w w' ∧ Ev (es2F (ms.map ME.e) X.c X.seq X.low X.idx X.val) (hs2F hs X.c X.seq X.low X.idx) (ms'.map ME.e) hs' ∧ ∀ m ∈ ms', m ∈ ms ∨ m = newM X a K

set_option maxHeartbeats 8000000 in
set_option maxRecDepth 100000 in
/-- zzModelRecord. -/
theorem zzModelRecord {mb base : Nat} {ms : List ME} {hs : List Hold} {T : Nat → Stp} {n : Nat} (X : Stp) (a : Option Addr) (K : Nat) (w : World) (hX : T n = X) (g : GoodS (ms.map ME.e) hs T n 1024) (ok : StpOk X) (hinc : ∀ j, j < n → (T j).idx < X.idx) (hn : n < 4096) (hvt : vtot T (n + 1) ≤ 1048576) (h : ModX w mb base ms hs) :
    Calls Try.prog 43 #[.pointer (some ⟨mb, 0, none⟩), .agg #[.string X.c, .int .u64 X.seq, .int .u64 X.low, .int .u64 X.idx, .slice a X.val.length K]] w fun e w' => Ret43 w w' mb base ms hs X a K e := by
  have hml : ms.length ≤ n := by have := g.elen; simpa using this
  have hhl := g.len
  have HNH := hide g.nodH
  have HG2 : Hid (GoodS (es2F (ms.map ME.e) X.c X.seq X.low X.idx X.val) (hs2F hs X.c X.seq X.low X.idx) T (n + 1) 1025) := by
    have := g.rec2 (by rw [hX]; exact ok) (by rw [hX]; exact hinc)
    rw [hX] at this
    exact this
  have HMX := hide h
  have HBW : Hid (base ≤ w.heap.size) := by
    obtain ⟨_, _, _, _, h'⟩ := h
    exact Nat.le_trans h'.bas (Nat.le_of_lt h'.lt)
  clear h g hinc
  go_enter Try.func43, Try.ntmps43
  go_wp2_with fail
  have HM0 := hide (HMX.out.below (w' := w.alloc (bx51 X a K)) ((Below.refl _ _).alloc (Nat.le_refl _) _))
  refine (zzModelDrop X.c X.low _ (by omega) (by omega) HNH.out HM0.out).mono ?_
  rintro e w1 ⟨rfl, hM1, hF1⟩
  have hA1 : A43 w w1 mb base w.heap.size X a K (dropM ms X.c X.low) (dropH hs X.c X.low) := by
    have hf : Fr base w w1 := ((Fr.refl base w).alloc HBW.out _).trans hF1
    exact ⟨hM1, hf, (hF1.t w.heap.size _ 51 _ (heap_alloc_new w _) (by decide)).trans (heap_alloc_new w _), Nat.le_trans HBW.out hf.b.size⟩
  have HA1 := hide hA1
  have hl1 : (dropM ms X.c X.low).length ≤ ms.length := List.length_filter_le _ _
  obtain ⟨m1, HM1⟩ : ∃ m1, Hid (dropM ms X.c X.low = m1) := ⟨_, rfl⟩
  obtain ⟨h1, HH1⟩ : ∃ h1, Hid (dropH hs X.c X.low = h1) := ⟨_, rfl⟩
  rw [HM1.out] at HA1 hl1
  rw [HH1.out] at HA1
  obtain ⟨B, hB⟩ : ∃ B, B = w.heap.size := ⟨_, rfl⟩
  rw [← hB] at HA1 ⊢
  clear hB hA1 hM1 hF1 HM0 HMX
  go_wp2_with fail
  go_loopw [4, 5] (fun v i wr => ∃ (k : Nat) (f : Bool), k ≤ m1.length ∧ i = .int .i64 (k : Int) ∧ v = .bool f ∧ Hid (Fnd m1 X k f) ∧ Hid (A43 w wr mb base B X a K (mapK m1 (rpM X a K) k) h1)) (fun _ i _ => m1.length - (intOf i).toNat)
  case atStart => exact ⟨0, false, Nat.zero_le _, rfl, rfl, ⟨fun h => (by cases h), fun ⟨j, hj, _⟩ => absurd hj (by omega)⟩, by rw [mapK_zero]; exact HA1⟩
  case round =>
    obtain ⟨k, f, hk, rfl, rfl, HFN, HA⟩ := hrel
    obtain ⟨ea, ec, ha, hc, hM⟩ := HA.out.m
    have hlm := mapK_len m1 (rpM X a K) k
    have c0 := hM.c0
    have hmlt := hM.lt
    rw [hlm] at c0
    obtain ⟨b0, b1, b2, b3, b4, bl⟩ := HA.out.box
    have HM := hide hM
    clear hM
    by_cases hlt : k < m1.length
    · obtain ⟨ge, rfl, hgb, hgl, hgm, hcell, _⟩ := HM.out.eform (by omega)
      obtain ⟨d0, d1, d2, d3⟩ := hcell k (by omega)
      have HY := hide (mapK_at (rpM X a K) hlt)
      rw [HY.out] at d0 d1 d2 d3
      obtain ⟨y, HY2⟩ : ∃ y, Hid (mAt m1 k = y) := ⟨_, rfl⟩
      rw [HY2.out] at d0 d1 d2 d3
      have hki : (0 : Int) ≤ (k : Int) := by omega
      have hkn : (k : Int) < (m1.length : Int) := by omega
      clear hcell
      by_cases e1 : y.e.c = X.c
      · have e1' := beqS_true e1
        have E1 := hide e1
        clear e1
        by_cases e2 : y.e.seq = X.seq
        · rw [e2] at d1
          have E2 := hide e2
          clear e2
          go_wp2_with fail
          go_quiet (fail)
          have HA2 := hide (HA.out.below (below_drewN (Below.refl _ _) nq))
          have HM2 := hide (HM.out.below (w' := wr.drewN nq) (below_drewN (Below.refl _ _) nq))
          obtain ⟨w5, hw5⟩ : ∃ w5, w5 = wr.drewN nq := ⟨_, rfl⟩
          rw [← hw5] at HA2 HM2 ⊢
          clear hw5 c0 d0 d1 d2 d3 b0 b1 b2 b3 b4 bl hmlt hgl
          have c0 := HM2.out.c0
          rw [hlm] at c0
          obtain ⟨b0, b1, b2, b3, b4, bl⟩ := HA2.out.box
          obtain ⟨d0, d1, d2, d3⟩ := ents_cells HM2.out.ent k (by omega)
          rw [HY.out, HY2.out] at d0 d1 d2 d3
          have hf2 := HM2.out.ent.frozenAt (k * 4 + 2)
          have hf3 := HM2.out.ent.frozenAt (k * 4 + 3)
          have hmlt := HM2.out.lt
          have hgl := cell_lt d0
          have hn1 : ¬ ge = B := HA2.out.ne (own_T87 HM2.out.ent ge rfl)
          have hn2 : ¬ B = ge := fun e => hn1 e.symm
          have hn3 : ¬ mb = B := HA2.out.ne (T57 HM2.out.str)
          have hn4 : ¬ B = mb := fun e => hn3 e.symm
          have hn5 : ¬ mb = ge := fun e => hgm e.symm
          go_wp2_with fail
          go_region
          have k2 := hf3
          go_wp2_with fail
          go_region
          have his : Hid (isM X (mAt (mapK m1 (rpM X a K) k) k)) := by
            show isM X _
            rw [HY.out, HY2.out]
            exact ⟨E1.out, E2.out⟩
          have hmk : Hid (mapK m1 (rpM X a K) (k + 1) = (mapK m1 (rpM X a K) k).set k (newM X a K)) := by
            show _ = _
            have h' := his.out
            rw [HY.out] at h'
            rw [mapK_succ _ hlt]
            unfold rpM
            rw [if_pos h']
          have hyes : Hid (Fnd m1 X (k + 1) true) := Fnd.yes (by have h' := his.out; rw [HY.out] at h'; exact h')
          go_wp2_with fail
          exact ⟨⟨k + 1, true, by omega, by go_num, rfl, hyes, by rw [hmk.out]; exact ((HA2.out.put HM2.out (by omega) his.out).below (Below.refl _ _).drew).below (Below.refl _ _).drew⟩, by simp [intOf]; omega⟩
        · have e2' : decide (y.e.seq = X.seq) = false := decide_eq_false e2
          go_wp2_with fail
          go_quiet (fail)
          have HA2 := hide (HA.out.below (below_drewN (Below.refl _ _) nq))
          have hnm : ¬ isM X (mAt m1 k) := by rw [HY2.out]; exact fun h => e2 h.2
          have HN := hide hnm
          clear hnm
          go_wp2_with fail
          exact ⟨⟨k + 1, f, by omega, by go_num, rfl, HFN.out.no HN.out, by rw [mapK_same _ hlt (by unfold rpM; rw [if_neg HN.out])]; exact HA2.out⟩, by simp [intOf]; omega⟩
      · have e1' := beqS_false e1
        go_wp2_with fail
        go_quiet (fail)
        have HA2 := hide (HA.out.below (below_drewN (Below.refl _ _) nq))
        have hnm : ¬ isM X (mAt m1 k) := by rw [HY2.out]; exact fun h => e1 h.1
        have HN := hide hnm
        clear hnm
        go_wp2_with fail
        exact ⟨⟨k + 1, f, by omega, by go_num, rfl, HFN.out.no HN.out, by rw [mapK_same _ hlt (by unfold rpM; rw [if_neg HN.out])]; exact HA2.out⟩, by simp [intOf]; omega⟩
    · obtain rfl : k = m1.length := by omega
      have hfe := HFN.out.all
      obtain ⟨wp, rfl⟩ : ∃ wp : World, wp = wr := ⟨_, rfl⟩
      rw [mapK_all] at HA HM hlm
      have HFE := hide hfe
      clear hfe
      go_upto_if 65 with fail
      go_cut [4] (fun _ wx => Hid (A43 w wx mb base B X a K (putM m1 X a K) h1))
      case first =>
        cases f with
        | true =>
          go_wp2
          go_meet
          case rel =>
            show A43 _ _ _ _ _ _ _ _ (putM m1 X a K) _
            unfold putM
            rw [← HFE.out, if_pos rfl]
            exact HA.out
        | false =>
          have hmm := map_rpM (a := a) (K := K) HFE.out.symm
          rw [hmm] at HM HA
          have hmn1 : ¬ mb = B := HA.out.ne (T57 HM.out.str)
          have hmn2 : ¬ B = mb := fun e => hmn1 e.symm
          have hbm : base ≤ mb := HM.out.bas
          have hfz := HM.out.fz 0
          have z0 : wp.drew.cell? ⟨mb, 0, none⟩ = some (.slice ea m1.length ec) := c0
          have y0 : wp.drew.cell? ⟨B, 0, none⟩ = some (.string X.c) := b0
          have y1 : wp.drew.cell? ⟨B, 1, none⟩ = some (.int .u64 X.seq) := b1
          have y3 : wp.drew.cell? ⟨B, 3, none⟩ = some (.int .u64 X.idx) := b3
          have y4 : wp.drew.cell? ⟨B, 4, none⟩ = some (.slice a X.val.length K) := b4
          have hpb : base ≤ wp.heap.size := HA.out.l
          go_wp2_with fail
          refine wp_region_held_drew (S := fun w' => w'.cell? ⟨B, 0, none⟩ = some (.string X.c) ∧ w'.cell? ⟨B, 1, none⟩ = some (.int .u64 X.seq) ∧ w'.cell? ⟨B, 3, none⟩ = some (.int .u64 X.idx) ∧ w'.cell? ⟨B, 4, none⟩ = some (.slice a X.val.length K)) (by kernel_rfl) ⟨y0, y1, y3, y4⟩ (fun hHeld => ?_)
          refine wpAnyH_take (i := 0) (v := ?_) rfl (by kernel_rfl) (by kernel_rfl) (by kernel_rfl) (fun _ _ _ h => h) (Or.inl ⟨by rfl, ?_⟩) hHeld ?_
          rotate_left
          · (intro w0 hSw; (try dsimp only at hSw); go_simp; try with_reducible rfl)
          simp only [Act.put, List.setIfInBounds_toArray]
          refine wpAnyH_take (i := 1) (v := ?_) rfl (by kernel_rfl) (by kernel_rfl) (by kernel_rfl) (fun _ _ _ h => h) (Or.inl ⟨by rfl, ?_⟩) hHeld ?_
          rotate_left
          · (intro w0 hSw; (try dsimp only at hSw); go_simp; try with_reducible rfl)
          simp only [Act.put]
          refine wpAnyH_take (i := 2) (v := ?_) rfl (by kernel_rfl) (by kernel_rfl) (by kernel_rfl) (fun _ _ _ h => h) (Or.inl ⟨by rfl, ?_⟩) hHeld ?_
          rotate_left
          · (intro w0 hSw; (try dsimp only at hSw); go_simp; try with_reducible rfl)
          simp only [Act.put]
          refine wpAnyH_take (i := 3) (v := ?_) rfl (by kernel_rfl) (by kernel_rfl) (by kernel_rfl) (fun _ _ _ h => h) (Or.inl ⟨by rfl, ?_⟩) hHeld ?_
          rotate_left
          · (intro w0 hSw; (try dsimp only at hSw); go_simp; try with_reducible rfl)
          simp only [Act.put]
          refine wpAnyH_take (i := 5) (v := ?_) rfl (by kernel_rfl) (by kernel_rfl) (by kernel_rfl) (fun _ _ _ h => h) (Or.inl ⟨by rfl, ?_⟩) hHeld ?_
          rotate_left
          · (intro w0 hSw; (try dsimp only at hSw); go_simp; try with_reducible rfl)
          simp only [Act.put]
          refine wpAnyH_take (i := 6) (v := ?_) rfl (by kernel_rfl) (by kernel_rfl) (by kernel_rfl) (fun _ _ _ h => h) (Or.inl ⟨by rfl, ?_⟩) hHeld ?_
          rotate_left
          · (intro w0 hSw; (try dsimp only at hSw); go_simp; try with_reducible rfl)
          simp only [Act.put]
          refine wpAnyH_take (i := 7) (v := ?_) rfl (by kernel_rfl) (by kernel_rfl) (by kernel_rfl) (fun _ _ _ h => h) (Or.inl ⟨by rfl, ?_⟩) hHeld ?_
          rotate_left
          · (intro w0 hSw; (try dsimp only at hSw); go_simp; try with_reducible rfl)
          simp only [Act.put]
          refine wpAnyH_take (i := 8) (v := ?_) rfl (by kernel_rfl) (by kernel_rfl) (by kernel_rfl) (fun _ _ _ h => h) (Or.inl ⟨by rfl, ?_⟩) hHeld ?_
          rotate_left
          · (intro w0 hSw; (try dsimp only at hSw); go_simp; try with_reducible rfl)
          simp only [Act.put]
          refine wpAnyH_take (i := 9) (v := ?_) rfl (by kernel_rfl) (by kernel_rfl) (by kernel_rfl) (fun _ _ _ h => h) (Or.inl ⟨by rfl, ?_⟩) hHeld ?_
          rotate_left
          · (intro w0 hSw; (try dsimp only at hSw); go_simp; try with_reducible rfl)
          simp only [Act.put]
          refine wpAnyH_take (i := 10) (v := ?_) rfl (by kernel_rfl) (by kernel_rfl) (by kernel_rfl) (fun _ _ _ h => h) (Or.inl ⟨by rfl, ?_⟩) hHeld ?_
          rotate_left
          · (intro w0 hSw; (try dsimp only at hSw); go_simp; try with_reducible rfl)
          simp only [Act.put]
          refine wpAnyH_take (i := 11) (v := ?_) rfl (by kernel_rfl) (by kernel_rfl) (by kernel_rfl) (fun _ _ _ h => h) (Or.inl ⟨by rfl, ?_⟩) hHeld ?_
          rotate_left
          · (intro w0 hSw; (try dsimp only at hSw); go_simp; try with_reducible rfl)
          simp only [Act.put]
          refine wpAnyH_take (i := 12) (v := ?_) rfl (by kernel_rfl) (by kernel_rfl) (by kernel_rfl) (fun _ _ _ h => h) (Or.inl ⟨by rfl, ?_⟩) hHeld ?_
          rotate_left
          · (intro w0 hSw; (try dsimp only at hSw); go_simp; try with_reducible rfl)
          simp only [Act.put]
          refine wpAnyH_take (i := 13) (v := ?_) rfl (by kernel_rfl) (by kernel_rfl) (by kernel_rfl) (fun _ _ _ h => h) (Or.inl ⟨by rfl, ?_⟩) hHeld ?_
          rotate_left
          · (intro w0 hSw; (try dsimp only at hSw); go_simp; try with_reducible rfl)
          simp only [Act.put]
          refine wpAnyH_ready (rs := [4, 14]) (by kernel_rfl) (by simp) ?_
          refine AllReadyH.cons rfl (fun K0 hK0 => ?_) (AllReadyH.cons rfl (fun K0 hK0 => ?_) AllReadyH.nil)
          · go_simp
            refine hK0.out _ _ hHeld (fun hHeld2 => ?_)
            clear hK0 K0
            refine wpAnyH_ready (rs := [14]) (by kernel_rfl) (by simp) ?_
            refine AllReadyH.cons rfl (fun K0 hK0 => ?_) AllReadyH.nil
            go_simp
            refine hK0.out _ _ (by go_keep) (fun hHeld3 => ?_)
            clear hK0 K0 hHeld2
            refine wpAnyH_ready (rs := [15]) (by kernel_rfl) (by simp) ?_
            refine AllReadyH.cons rfl (fun K0 hK0 => ?_) AllReadyH.nil
            refine step87 (w := _) (newM X a K) rfl _ _ rfl (by simp [Act.eval]) (own_below HM.out.ent (by go_grown)) wp.heap.size (by simp [Act.eval]) (heap_alloc_new wp _) (by omega) (by simp; omega) ?_
            intro g1 cap1 w6 hown6 hg6 hgl6
            obtain ⟨kc, kf, km, k0, k1, k3, k4, HE6, HB6, HF6⟩ := HA.out.app HM.out hg6
            have HO6 := hide hown6
            clear hown6 hg6
            refine hK0.out _ _ ⟨k0, k1, k3, k4⟩ (fun hHeld4 => ?_)
            clear hK0 K0
            simp only [Act.put, List.setIfInBounds_toArray]
            refine wpAnyH_take (i := 16) (v := ?_) rfl (by kernel_rfl) (by kernel_rfl) (by kernel_rfl) (fun _ _ _ h => h) (Or.inl ⟨by rfl, ?_⟩) hHeld4 ?_
            rotate_left
            · (intro w0 hSw; (try dsimp only at hSw); go_simp; try with_reducible rfl)
            simp only [Act.put]
            refine wpAnyH_take (i := 17) (v := ?_) rfl (by kernel_rfl) (by kernel_rfl) (by kernel_rfl) (fun _ _ _ h => h) (Or.inl ⟨by rfl, ?_⟩) hHeld4 ?_
            rotate_left
            · (intro w0 hSw; (try dsimp only at hSw); go_simp; try with_reducible rfl)
            simp only [Act.put]
            refine wpAnyH_ready (rs := [18]) (by kernel_rfl) (by simp) ?_
            refine AllReadyH.cons rfl (fun K0 hK0 => ?_) AllReadyH.nil
            go_simp
            refine hK0.out _ _ ⟨(World.cell?_setCell_far _ _ _ _ hmn1).trans k0, (World.cell?_setCell_far _ _ _ _ hmn1).trans k1, (World.cell?_setCell_far _ _ _ _ hmn1).trans k3, (World.cell?_setCell_far _ _ _ _ hmn1).trans k4⟩ (fun _ => ?_)
            clear hK0 K0
            refine wpAnyH_done (by kernel_rfl) ?_ _
            clear kc kf k0 k1 k3 k4 hHeld4
            go_wp2_with fail
            go_meet
            case rel =>
              show A43 _ _ _ _ _ _ _ _ (putM m1 X a K) _
              unfold putM
              rw [← HFE.out, if_neg (by simp)]
              exact A43.app2 HE6.out HB6.out HF6.out hbm hmn2 HO6.out
          · go_simp
            refine hK0.out _ _ (by go_keep) (fun hHeld2 => ?_)
            clear hK0 K0
            refine wpAnyH_ready (rs := [4]) (by kernel_rfl) (by simp) ?_
            refine AllReadyH.cons rfl (fun K0 hK0 => ?_) AllReadyH.nil
            go_simp
            refine hK0.out _ _ hHeld2 (fun hHeld3 => ?_)
            clear hK0 K0 hHeld2
            refine wpAnyH_ready (rs := [15]) (by kernel_rfl) (by simp) ?_
            refine AllReadyH.cons rfl (fun K0 hK0 => ?_) AllReadyH.nil
            refine step87 (w := _) (newM X a K) rfl _ _ rfl (by simp [Act.eval]) (own_below HM.out.ent (by go_grown)) wp.heap.size (by simp [Act.eval]) (heap_alloc_new wp _) (by omega) (by simp; omega) ?_
            intro g1 cap1 w6 hown6 hg6 hgl6
            obtain ⟨kc, kf, km, k0, k1, k3, k4, HE6, HB6, HF6⟩ := HA.out.app HM.out hg6
            have HO6 := hide hown6
            clear hown6 hg6
            refine hK0.out _ _ ⟨k0, k1, k3, k4⟩ (fun hHeld4 => ?_)
            clear hK0 K0
            simp only [Act.put, List.setIfInBounds_toArray]
            refine wpAnyH_take (i := 16) (v := ?_) rfl (by kernel_rfl) (by kernel_rfl) (by kernel_rfl) (fun _ _ _ h => h) (Or.inl ⟨by rfl, ?_⟩) hHeld4 ?_
            rotate_left
            · (intro w0 hSw; (try dsimp only at hSw); go_simp; try with_reducible rfl)
            simp only [Act.put]
            refine wpAnyH_take (i := 17) (v := ?_) rfl (by kernel_rfl) (by kernel_rfl) (by kernel_rfl) (fun _ _ _ h => h) (Or.inl ⟨by rfl, ?_⟩) hHeld4 ?_
            rotate_left
            · (intro w0 hSw; (try dsimp only at hSw); go_simp; try with_reducible rfl)
            simp only [Act.put]
            refine wpAnyH_ready (rs := [18]) (by kernel_rfl) (by simp) ?_
            refine AllReadyH.cons rfl (fun K0 hK0 => ?_) AllReadyH.nil
            go_simp
            refine hK0.out _ _ ⟨(World.cell?_setCell_far _ _ _ _ hmn1).trans k0, (World.cell?_setCell_far _ _ _ _ hmn1).trans k1, (World.cell?_setCell_far _ _ _ _ hmn1).trans k3, (World.cell?_setCell_far _ _ _ _ hmn1).trans k4⟩ (fun _ => ?_)
            clear hK0 K0
            refine wpAnyH_done (by kernel_rfl) ?_ _
            clear kc kf k0 k1 k3 k4 hHeld4
            go_wp2_with fail
            go_meet
            case rel =>
              show A43 _ _ _ _ _ _ _ _ (putM m1 X a K) _
              unfold putM
              rw [← HFE.out, if_neg (by simp)]
              exact A43.app2 HE6.out HB6.out HF6.out hbm hmn2 HO6.out
      case rest =>
        obtain ⟨w7, rfl⟩ : ∃ w7 : World, w7 = wc := ⟨_, rfl⟩
        have HA7 := hcut
        clear hcut
        obtain ⟨m2, HM2⟩ : ∃ m2, Hid (putM m1 X a K = m2) := ⟨_, rfl⟩
        rw [HM2.out] at HA7
        have HNH1 : Hid (NodH h1) := by
          show NodH h1
          rw [← HH1.out]
          exact HNH.out.dropH X.c X.low
        have HLH : Hid (h1.length ≤ 1025) := by
          show h1.length ≤ 1025
          have := length_dropH hs X.c X.low
          rw [HH1.out] at this
          omega
        clear c0 hmlt b0 b1 b2 b3 b4 bl HM HA hlm HA1
        obtain ⟨b0, b1, b2, b3, b4, bl⟩ := HA7.out.box
        go_wp2_with fail
        refine (zzHolderAt X.c w7 (by have := HLH.out; omega) HA7.out.m).mono ?_
        rintro e w8 ⟨hr, rfl⟩
        rcases hr with ⟨hno, _⟩ | ⟨i, hi, hic, rfl⟩
        · exfalso
          have := held_dropH hs X.c X.low
          rw [HH1.out, hno] at this
          cases this
        have HIC := hide hic
        have HI : Hid (i < h1.length) := hi
        clear hic
        obtain ⟨fl, HFL⟩ : ∃ fl, Hid ((hAt h1 i).floor = fl) := ⟨_, rfl⟩
        go_upto_region 13 with fail
        go_cut [98] (fun v wx => v = .bool (decide (X.seq < fl)) ∧ Hid (A43 w wx mb base B X a K m2 h1))
        case first =>
          obtain ⟨ea, ec, ha, hc, hM8⟩ := HA7.out.m
          obtain ⟨gh, rfl, hgb, hgl, hgm, hcell, _⟩ := hM8.hform (by omega)
          obtain ⟨d0, d1, d2⟩ := hcell i hi
          rw [HFL.out] at d1
          have c1 := hM8.c1
          have hmlt := hM8.lt
          have hii : (0 : Int) ≤ (i : Int) := by omega
          have hin : (i : Int) < (h1.length : Int) := by omega
          clear hcell hM8
          go_quiet (fail)
          have HA8 := hide (HA7.out.below (below_drewN (Below.refl _ _) nq))
          go_wp2_with fail
          go_meet
          case rel => exact ⟨rfl, HA8⟩
        case rest =>
          obtain ⟨w9, rfl⟩ : ∃ w9 : World, w9 = wc := ⟨_, rfl⟩
          obtain ⟨rfl, HA9⟩ := hcut
          clear HA7 b0 b1 b2 b3 b4 bl
          go_upto_if 98 with fail
          go_cut [6] (fun v wx => v = .int .i64 (i : Int) ∧ Hid (A43 w wx mb base B X a K m2 (setFl h1 X.c (if X.seq < fl then X.seq else fl))))
          case first =>
            obtain ⟨ea, ec, ha, hc, hM9⟩ := HA9.out.m
            obtain ⟨gh, rfl, hgb, hgl, hgm, hcell, _⟩ := hM9.hform (by omega)
            obtain ⟨d0, d1, d2⟩ := hcell i hi
            have c1 := hM9.c1
            have hmlt := hM9.lt
            have hii : (0 : Int) ≤ (i : Int) := by omega
            have hin : (i : Int) < (h1.length : Int) := by omega
            have hf1 := hM9.hol.frozenAt (i * 3 + 1)
            have hn1 : ¬ gh = B := HA9.out.ne (own_T83 hM9.hol gh rfl)
            have hn2 : ¬ B = gh := fun e => hn1 e.symm
            have hn3 : ¬ mb = B := HA9.out.ne (T57 hM9.str)
            have hn4 : ¬ B = mb := fun e => hn3 e.symm
            have hn5 : ¬ mb = gh := fun e => hgm e.symm
            obtain ⟨b0, b1, b2, b3, b4, bl⟩ := HA9.out.box
            have HM9 := hide hM9
            clear hcell hM9
            by_cases t1 : X.seq < fl
            · go_wp2_with fail
              go_region
              go_wp2_with fail
              go_meet
              case rel =>
                refine ⟨rfl, ?_⟩
                rw [if_pos t1, setFl_at HNH1.out HI.out HIC.out]
                exact (HA9.out.setH1 HM9.out HI.out (by omega) rfl).below (Below.refl _ _).drew
            · go_wp2_with fail
              go_meet
              case rel =>
                refine ⟨rfl, ?_⟩
                rw [if_neg (by omega), setFl_at HNH1.out HI.out HIC.out, ← HFL.out, set_same HI.out]
                exact HA9.out
          case rest =>
            obtain ⟨w10, rfl⟩ : ∃ w10 : World, w10 = wc := ⟨_, rfl⟩
            obtain ⟨rfl, HA10⟩ := hcut
            obtain ⟨h2, HH2⟩ : ∃ h2, Hid (setFl h1 X.c (if X.seq < fl then X.seq else fl) = h2) := ⟨_, rfl⟩
            rw [HH2.out] at HA10
            have HSF := hide (setFl_at HNH1.out HI.out HIC.out (if X.seq < fl then X.seq else fl))
            rw [HH2.out] at HSF
            have hi2 : i < h2.length := by rw [HSF.out]; simpa using hi
            have HC2 : Hid ((hAt h2 i).c = X.c) := by
              show (hAt h2 i).c = X.c
              rw [HSF.out, hAt_set hi]
              exact HIC.out
            have HN2 : Hid (NodH h2) := by
              show NodH h2
              rw [← HH2.out]
              exact HNH1.out.setFl _ _
            have HL2 : Hid (h2.length = h1.length) := by
              show h2.length = h1.length
              rw [← HH2.out, length_setFl]
            have HI2 : Hid (i < h2.length) := hi2
            go_upto_region 15 with fail
            go_cut [6] (fun v wx => v = .int .i64 (i : Int) ∧ Hid (A43 w wx mb base B X a K m2 (setLast h2 X.c X.idx)))
            case first =>
              obtain ⟨ea, ec, ha, hc, hM9⟩ := HA10.out.m
              obtain ⟨gh, rfl, hgb, hgl, hgm, hcell, _⟩ := hM9.hform (by omega)
              obtain ⟨d0, d1, d2⟩ := hcell i hi2
              have c1 := hM9.c1
              have hmlt := hM9.lt
              have hii : (0 : Int) ≤ (i : Int) := by omega
              have hin : (i : Int) < (h2.length : Int) := by omega
              have hf2 := hM9.hol.frozenAt (i * 3 + 2)
              have hn1 : ¬ gh = B := HA10.out.ne (own_T83 hM9.hol gh rfl)
              have hn2 : ¬ B = gh := fun e => hn1 e.symm
              have hn3 : ¬ mb = B := HA10.out.ne (T57 hM9.str)
              have hn4 : ¬ B = mb := fun e => hn3 e.symm
              have hn5 : ¬ mb = gh := fun e => hgm e.symm
              obtain ⟨b0, b1, b2, b3, b4, bl⟩ := HA10.out.box
              have HM9 := hide hM9
              clear hcell hM9
              go_wp2_with fail
              go_region
              go_wp2_with fail
              go_meet
              case rel =>
                refine ⟨rfl, ?_⟩
                rw [setLast_at HN2.out HI2.out HC2.out]
                exact (HA10.out.setH1 HM9.out HI2.out (by omega) rfl).below (Below.refl _ _).drew
            case rest =>
              obtain ⟨w11, rfl⟩ : ∃ w11 : World, w11 = wc := ⟨_, rfl⟩
              obtain ⟨rfl, HA11⟩ := hcut
              obtain ⟨h3, HH3⟩ : ∃ h3, Hid (setLast h2 X.c X.idx = h3) := ⟨_, rfl⟩
              rw [HH3.out] at HA11
              have HES : Hid (es2F (ms.map ME.e) X.c X.seq X.low X.idx X.val = m2.map ME.e) := by
                show es2F _ _ _ _ _ _ = _
                unfold es2F
                rw [← dropM_map, HM1.out, ← putM_map (a := a) (K := K), HM2.out]
              have HHS : Hid (hs2F hs X.c X.seq X.low X.idx = h3) := by
                show hs2F _ _ _ _ _ = _
                unfold hs2F
                rw [HH1.out, floor_at HNH1.out HI.out HIC.out, HFL.out, HH2.out, HH3.out]
              rw [HES.out, HHS.out] at HG2
              have HMX3 := hide HA11.out.m
              have HFR3 := hide HA11.out.f
              clear HA10 HA11 hi hi2
              go_wp2_with fail
              go_loopw [139] (fun _ wr => ∃ ms' hs', Hid (St2 m2 h3 ms' hs') ∧ Hid (ModX wr mb base ms' hs') ∧ Hid (Fr base w wr)) (fun _ wr => hLenAt wr mb)
              case atStart => exact ⟨m2, h3, .inl ⟨rfl, rfl⟩, HMX3, HFR3⟩
              case round =>
                clear HMX3 HFR3
                obtain ⟨ms', hs', HST, HMX, HFR⟩ := hrel
                have hbd := HST.out.bd HG2.out
                obtain ⟨ea, ec, ha, hc, hM9⟩ := HMX.out
                have c1 := hM9.c1
                have hmlt := hM9.lt
                have hbl2 : base ≤ wr.heap.size := Nat.le_trans hM9.bas (Nat.le_of_lt hM9.lt)
                have hcap := own_cap hM9.hol
                unfold maxLen at hcap
                have hb2 := hbd.2.1
                have hb3 := hbd.2.2.1
                have hb4 := hbd.2.2.2
                clear hM9
                have HBD := hide hbd.1
                clear hbd
                by_cases t1 : (1024 : Int) < (hs'.length : Int)
                · obtain ⟨rfl, rfl⟩ := HBD.out (by omega)
                  go_wp2_with fail
                  refine (zzModelOldest wr (by omega) (by omega) HMX.out).mono ?_
                  rintro e w12 ⟨⟨b, rfl, hb, hmin⟩, m, rfl⟩
                  have hbw : Below wr.heap.size wr (wr.drewN m) := below_drewN (Below.refl _ _) m
                  have HO := hide (oldest_of HG2.out hb hmin)
                  have HMX2 := hide (HMX.out.below hbw)
                  have HF2 := hide (HFR.out.trans (Fr.of_below hbw hbl2))
                  have HB : Hid (b < hs'.length) := hb
                  clear hbw hmin
                  go_wp2_with fail
                  refine (zzModelEvict b _ HB.out (by omega) (by omega) HG2.out.nodH HMX2.out).mono ?_
                  rintro e w13 ⟨rfl, hM13, hF13⟩
                  have HM13 := hide hM13
                  have HF13 := hide (HF2.out.trans hF13)
                  clear hM13 hF13
                  go_wp2_with fail
                  refine ⟨⟨_, _, .inr ⟨by omega, _, HO.out, rfl, rfl⟩, HM13, HF13⟩, ?_⟩
                  rw [hLenAt_of HM13.out, hLenAt_of HMX.out]
                  have := length_minusH HG2.out.nodH HO.out.1
                  omega
                · by_cases t2 : (1 : Int) < (hs'.length : Int)
                  · go_wp2_with fail
                    refine (zzModelBytes wr (by omega) (by omega) HMX.out).mono ?_
                    rintro e w12 ⟨rfl, rfl⟩
                    obtain ⟨bb, HBB⟩ : ∃ bb, Hid (bytesE (ms'.map ME.e) = bb) := ⟨_, rfl⟩
                    rw [HBB.out] at hb4 ⊢
                    have hb5 : bb ≤ 67125248 := by omega
                    go_wp2
                    go_end0
                    refine ⟨rfl, ms', hs', HMX.out, HFR.out, ?_, fun m hm => ?_⟩
                    · rw [HES.out, HHS.out]
                      exact HST.out.ev HG2.out (by omega)
                    · have h1' := HST.out.mem hm
                      rw [← HM2.out] at h1'
                      rcases mem_putM h1' with h2' | h2'
                      · rw [← HM1.out] at h2'
                        exact .inl (List.mem_filter.1 h2').1
                      · exact .inr h2'
                  · go_wp2
                    go_end0
                    refine ⟨rfl, ms', hs', HMX.out, HFR.out, ?_, fun m hm => ?_⟩
                    · rw [HES.out, HHS.out]
                      exact HST.out.ev HG2.out (by omega)
                    · have h1' := HST.out.mem hm
                      rw [← HM2.out] at h1'
                      rcases mem_putM h1' with h2' | h2'
                      · rw [← HM1.out] at h2'
                        exact .inl (List.mem_filter.1 h2').1
                      · exact .inr h2'
end Go.Proofs.Qxb6617896a
