import Derived.Test.Qxb6617896aPlay
import Derived.Test.Qxb6617896aTwo
import Derived.Deep.AppendLies
import Derived.Laws.OwnMore
import Derived.OwnWalk
namespace Go.Proofs.Qxb6617896a
open Go.ChangeShapes Go.WideShapes Go.ChangeAt Go.RowKit

/-- An entry of the model, and where its value lies. -/
structure ME where
  e : Ent
  a : Option Addr
  k : Nat

def eC1 (m : ME) : List Value := [.string m.e.c, .int .u64 m.e.seq, .int .u64 m.e.idx, .slice m.a m.e.val.length m.k]
def eC (ms : List ME) : List Value := ms.flatMap eC1
def hC1 (h : Hold) : List Value := [.string h.c, .int .u64 h.floor, .int .u64 h.last]
def hC (hs : List Hold) : List Value := hs.flatMap hC1
def hAt (hs : List Hold) (j : Nat) : Hold := hs.getD j ⟨ByteArray.empty, 0, 0⟩
def mAt (ms : List ME) (j : Nat) : ME := ms.getD j ⟨⟨ByteArray.empty, 0, 0, []⟩, none, 0⟩

section
variable {α β : Type}
theorem flat_len (f : α → List β) (s : Nat) (hf : ∀ a, (f a).length = s) : ∀ l : List α, (l.flatMap f).length = l.length * s
  | [] => by simp
  | a :: l => by
    rw [List.flatMap_cons, List.length_append, hf, flat_len f s hf l, List.length_cons, Nat.add_mul, Nat.one_mul]
    omega
theorem flat_get (f : α → List β) (s : Nat) (hf : ∀ a, (f a).length = s) : ∀ (l : List α) (j t : Nat), t < s → (l.flatMap f)[j * s + t]? = (l[j]?).bind (fun a => (f a)[t]?)
  | [], j, t, _ => by simp
  | a :: l, 0, t, h => by
    rw [List.flatMap_cons, List.getElem?_append_left (by rw [hf]; omega)]
    simp
  | a :: l, j + 1, t, h => by
    rw [List.flatMap_cons, List.getElem?_append_right (by rw [hf, Nat.add_mul]; omega), hf, show (j + 1) * s + t - s = j * s + t by rw [Nat.add_mul]; omega, flat_get f s hf l j t h]
    simp
theorem flat_set (f : α → List β) (s : Nat) (hf : ∀ a, (f a).length = s) : ∀ (l : List α) (j t : Nat) (a a' : α) (u : β), t < s → l[j]? = some a → f a' = (f a).set t u → (l.flatMap f).set (j * s + t) u = (l.set j a').flatMap f
  | [], j, t, _, _, _, _, h, _ => by simp at h
  | b :: l, 0, t, a, a', u, ht, h, e => by
    simp at h
    subst h
    rw [List.flatMap_cons, List.set_cons_zero, List.flatMap_cons, e, Nat.zero_mul, Nat.zero_add, List.set_append_left _ _ (by rw [hf]; omega)]
  | b :: l, j + 1, t, a, a', u, ht, h, e => by
    rw [List.flatMap_cons, List.set_cons_succ, List.flatMap_cons, List.set_append_right _ _ (by rw [hf, Nat.add_mul]; omega), hf, show (j + 1) * s + t - s = j * s + t by rw [Nat.add_mul]; omega,
      flat_set f s hf l j t a a' u ht (by simpa using h) e]
end

theorem eC_len (ms : List ME) : (eC ms).length = ms.length * 4 := flat_len eC1 4 (fun _ => rfl) ms
theorem hC_len (hs : List Hold) : (hC hs).length = hs.length * 3 := flat_len hC1 3 (fun _ => rfl) hs

theorem mAt_some {ms : List ME} {j : Nat} (h : j < ms.length) : ms[j]? = some (mAt ms j) := by
  unfold mAt
  rw [List.getD_eq_getElem?_getD, List.getElem?_eq_getElem h]
  rfl
theorem hAt_some {hs : List Hold} {j : Nat} (h : j < hs.length) : hs[j]? = some (hAt hs j) := by
  unfold hAt
  rw [List.getD_eq_getElem?_getD, List.getElem?_eq_getElem h]
  rfl
theorem hAt_mem {hs : List Hold} {j : Nat} (h : j < hs.length) : hAt hs j ∈ hs := List.mem_of_getElem? (hAt_some h)
theorem mAt_mem {ms : List ME} {j : Nat} (h : j < ms.length) : mAt ms j ∈ ms := List.mem_of_getElem? (mAt_some h)

/-- THE MODEL AT BLOCK mb; what it wrote lies from base on. -/
structure ModAt (w : World) (mb base : Nat) (ms : List ME) (hs : List Hold) (ea : Option Addr) (ec : Nat) (ha : Option Addr) (hc : Nat) : Prop where
  str : w.heap[mb]? = some (.cells #[.slice ea ms.length ec, .slice ha hs.length hc] 57 (0, 0))
  ent : w.ownsRow base 87 4 (.slice ea ms.length ec) ms.length (eC ms)
  hol : w.ownsRow base 83 3 (.slice ha hs.length hc) hs.length (hC hs)
  bas : base ≤ mb

def ModX (w : World) (mb base : Nat) (ms : List ME) (hs : List Hold) : Prop := ∃ ea ec ha hc, ModAt w mb base ms hs ea ec ha hc

/-- The entries' cells. -/
def ECells (w : World) (ms : List ME) (g : Nat) : Prop :=
  ∀ j, j < ms.length → w.cell? ⟨g, j * 4, none⟩ = some (.string (mAt ms j).e.c) ∧ w.cell? ⟨g, j * 4 + 1, none⟩ = some (.int .u64 (mAt ms j).e.seq) ∧ w.cell? ⟨g, j * 4 + 2, none⟩ = some (.int .u64 (mAt ms j).e.idx) ∧ w.cell? ⟨g, j * 4 + 3, none⟩ = some (.slice (mAt ms j).a (mAt ms j).e.val.length (mAt ms j).k)
def HCells (w : World) (hs : List Hold) (g : Nat) : Prop :=
  ∀ j, j < hs.length → w.cell? ⟨g, j * 3, none⟩ = some (.string (hAt hs j).c) ∧ w.cell? ⟨g, j * 3 + 1, none⟩ = some (.int .u64 (hAt hs j).floor) ∧ w.cell? ⟨g, j * 3 + 2, none⟩ = some (.int .u64 (hAt hs j).last)

theorem own_cap {w : World} {base : Nat} {e : TypeId} {size n c : Nat} {a : Option Addr} {xs : List Value} (h : w.ownsRow base e size (.slice a n c) n xs) : n ≤ c ∧ c ≤ maxLen := by
  rcases h.2 with ⟨h1, h2⟩ | ⟨g, cap, cur, h1, _, _, h2, h3, _⟩
  · cases h1; exact ⟨Nat.le_refl _, Nat.zero_le _⟩
  · cases h1; exact ⟨h2, h3⟩

theorem own_block {w : World} {base : Nat} {e : TypeId} {size n g c : Nat} {xs : List Value} (h : w.ownsRow base e size (.slice (some ⟨g, 0, none⟩) n c) n xs) : base ≤ g ∧ ∃ cur, w.heap[g]? = some (.cells cur e (0, 0)) := by
  rcases h.2 with ⟨h1, _⟩ | ⟨g', cap, cur, h1, h2, h3, _⟩
  · cases h1
  · cases h1; exact ⟨h2, cur, h3⟩

theorem ents_cells {w : World} {base : Nat} {g c : Nat} {ms : List ME} (h : w.ownsRow base 87 4 (.slice (some ⟨g, 0, none⟩) ms.length c) ms.length (eC ms)) : ECells w ms g := by
  intro j hj
  have key : ∀ t, t < 4 → w.cell? ⟨g, j * 4 + t, none⟩ = (eC1 (mAt ms j))[t]? := by
    intro t ht
    rw [h.cellAt (j * 4 + t) (by omega)]
    unfold eC
    rw [flat_get eC1 4 (fun _ => rfl) ms j t ht, mAt_some hj]
    rfl
  exact ⟨key 0 (by omega), key 1 (by omega), key 2 (by omega), key 3 (by omega)⟩
theorem hold_cells {w : World} {base : Nat} {g c : Nat} {hs : List Hold} (h : w.ownsRow base 83 3 (.slice (some ⟨g, 0, none⟩) hs.length c) hs.length (hC hs)) : HCells w hs g := by
  intro j hj
  have key : ∀ t, t < 3 → w.cell? ⟨g, j * 3 + t, none⟩ = (hC1 (hAt hs j))[t]? := by
    intro t ht
    rw [h.cellAt (j * 3 + t) (by omega)]
    unfold hC
    rw [flat_get hC1 3 (fun _ => rfl) hs j t ht, hAt_some hj]
    rfl
  exact ⟨key 0 (by omega), key 1 (by omega), key 2 (by omega)⟩

theorem grownBy_of_below {w w' : World} (hb : Below w.heap.size w w') : w.grownBy w' none := ⟨hb.os, hb.tape, hb.output, hb.size, fun k hk _ => hb.block k hk⟩

section
variable {w w' : World} {mb base : Nat} {ms : List ME} {hs : List Hold} {ea : Option Addr} {ec : Nat} {ha : Option Addr} {hc : Nat}

theorem ModAt.lt (h : ModAt w mb base ms hs ea ec ha hc) : mb < w.heap.size := (Array.getElem?_eq_some_iff.1 h.str).1
theorem ModAt.c0 (h : ModAt w mb base ms hs ea ec ha hc) : w.cell? ⟨mb, 0, none⟩ = some (.slice ea ms.length ec) := by simp [World.cell?, h.str]
theorem ModAt.c1 (h : ModAt w mb base ms hs ea ec ha hc) : w.cell? ⟨mb, 1, none⟩ = some (.slice ha hs.length hc) := by simp [World.cell?, h.str]
theorem ModAt.fz (h : ModAt w mb base ms hs ea ec ha hc) (o : Nat) : w.frozen? ⟨mb, o, none⟩ = false := by simp [World.frozen?, h.str]
theorem own_below {n : Nat} {e : TypeId} {size : Nat} {v : Value} {xs : List Value} (h : w.ownsRow base e size v n xs) (hb : Below w.heap.size w w') : w'.ownsRow base e size v n xs :=
  h.kept (grownBy_of_below hb) (by cases v.ownBlock <;> simp)
theorem ModAt.below (h : ModAt w mb base ms hs ea ec ha hc) (hb : Below w.heap.size w w') : ModAt w' mb base ms hs ea ec ha hc :=
  ⟨(hb.block mb h.lt).trans h.str, own_below h.ent hb, own_below h.hol hb, h.bas⟩
theorem ModX.below (h : ModX w mb base ms hs) (hb : Below w.heap.size w w') : ModX w' mb base ms hs :=
  let ⟨a, b, c, d, h⟩ := h; ⟨a, b, c, d, h.below hb⟩

theorem ModAt.hform (h : ModAt w mb base ms hs ea ec ha hc) (hn : 0 < hs.length) : ∃ g, ha = some ⟨g, 0, none⟩ ∧ base ≤ g ∧ g < w.heap.size ∧ g ≠ mb ∧ HCells w hs g ∧ (∀ o, w.frozen? ⟨g, o, none⟩ = false) := by
  obtain ⟨g, cap, hv, hb, hl⟩ := h.hol.form hn
  cases hv
  refine ⟨g, rfl, hb, hl, fun e => ?_, hold_cells h.hol, fun o => h.hol.frozenAt o⟩
  subst e
  obtain ⟨_, cur, hh⟩ := own_block h.hol
  rw [h.str] at hh
  simp at hh
theorem ModAt.eform (h : ModAt w mb base ms hs ea ec ha hc) (hn : 0 < ms.length) : ∃ g, ea = some ⟨g, 0, none⟩ ∧ base ≤ g ∧ g < w.heap.size ∧ g ≠ mb ∧ ECells w ms g ∧ (∀ o, w.frozen? ⟨g, o, none⟩ = false) := by
  obtain ⟨g, cap, hv, hb, hl⟩ := h.ent.form hn
  cases hv
  refine ⟨g, rfl, hb, hl, fun e => ?_, ents_cells h.ent, fun o => h.ent.frozenAt o⟩
  subst e
  obtain ⟨_, cur, hh⟩ := own_block h.ent
  rw [h.str] at hh
  simp at hh
end

/-- zzHolderAt's answer. -/
def RetAt (hs : List Hold) (c : ByteArray) (e : Ending) : Prop :=
  (holdOf hs c = none ∧ e = .returned (.int .i64 (-1))) ∨ ∃ i : Nat, i < hs.length ∧ (hAt hs i).c = c ∧ e = .returned (.int .i64 (i : Int))

theorem holdOf_none_at {hs : List Hold} {c : ByteArray} (h : ∀ j, j < hs.length → (hAt hs j).c ≠ c) : holdOf hs c = none := by
  rw [holdOf_none]
  intro x hx
  obtain ⟨j, hj, e⟩ := List.getElem_of_mem hx
  have := h j hj
  unfold hAt at this
  rw [List.getD_eq_getElem?_getD, List.getElem?_eq_getElem hj] at this
  rw [← e]
  exact this

set_option maxRecDepth 100000 in
/-- zzHolderAt. -/
theorem zzHolderAt {mb base : Nat} {ms : List ME} {hs : List Hold} (c : ByteArray) (w : World) (hl : hs.length ≤ 1048576) (h : ModX w mb base ms hs) :
    Calls Try.prog 54 #[.pointer (some ⟨mb, 0, none⟩), .string c] w fun e w' => RetAt hs c e ∧ w' = w := by
  obtain ⟨ea, ec, ha, hc, h⟩ := h
  have c1 := h.c1
  have hlt := h.lt
  have hcap := own_cap h.hol
  have H := hide h
  unfold maxLen at hcap
  clear h
  go_enter Try.func54, Try.ntmps54
  go_wp2
  go_loop [5] (fun i => ∃ k : Nat, k ≤ hs.length ∧ i = .int .i64 k ∧ Hid (∀ j, j < k → (hAt hs j).c ≠ c)) (fun i => hs.length - (intOf i).toNat)
  case atStart => exact ⟨0, Nat.zero_le _, rfl, fun j hj => absurd hj (by omega)⟩
  case round =>
    obtain ⟨k, hk, rfl, HN⟩ := hrel
    by_cases hlt2 : k < hs.length
    · obtain ⟨g, rfl, hb, hgl, hne, hcell, _⟩ := H.out.hform (by omega)
      obtain ⟨d0, d1, d2⟩ := hcell k hlt2
      clear hcell
      by_cases e1 : (hAt hs k).c = c
      · have e1' := beqS_true e1
        go_wp2
        go_ret
        exact ⟨.inr ⟨k, hlt2, e1, rfl⟩, rfl⟩
      · have e1' := beqS_false e1
        go_wp2
        go_round
        case rel =>
          refine ⟨k + 1, by omega, by go_num, fun j hj => ?_⟩
          by_cases e : j = k
          · subst e; exact e1
          · exact HN.out j (by omega)
        case measure => simp [intOf]; omega
    · obtain rfl : k = hs.length := by omega
      go_wp2
      go_ret
      exact ⟨.inl ⟨holdOf_none_at HN.out, rfl⟩, rfl⟩
end Go.Proofs.Qxb6617896a
