import Derived.Test.Qxb6617896aBase
import Derived.Maps.RangeWalk
namespace Go.Proofs.Qxb6617896a
open Go.ChangeShapes Go.WideShapes Go.ChangeAt Go.RowKit
open Go.Maps (Keyed)

/-- Every element reads as itself. -/
def tokR (v : Value) : Option (DataW Value × List MemPlace) := some (.held v, [])

/-- The datum D says, of each key, what f says. -/
def Says (D : DataW Value) (f : Lit → Option Value) : Prop :=
  (∀ kl, Maps.has D kl = (f kl).isSome) ∧ ∀ kl v, f kl = some v → ∀ zd, D.atKey kl zd = .held v

/-- BLOCK b IS A MAP (keys of type K) OF n ENTRIES, AND HOLDS AT EACH KEY WHAT f SAYS. -/
def MapIs (w : World) (b : Nat) (K : TypeId) (f : Lit → Option Value) (n : Nat) : Prop :=
  ∃ D : DataW Value, w.ownsMap Try.prog K tokR b n D ∧ Maps.size D = n ∧ Says D f

/-- f with v at k. -/
def upd (f : Lit → Option Value) (k : Lit) (v : Option Value) : Lit → Option Value := fun x => if x.sameKey k then v else f x

theorem upd_same (f : Lit → Option Value) {k : Lit} (hk : WideAt.IsKeyLit k) (v : Option Value) : upd f k v k = v := by unfold upd; rw [if_pos (WideAt.sameKey_self hk)]
theorem upd_other (f : Lit → Option Value) {k x : Lit} (v : Option Value) (h : x ≠ k) : upd f k v x = f x := by unfold upd; rw [Maps.sameKey_ne h]; rfl

theorem ownsMap_tight {w : World} {K b n : Nat} {D : DataW Value} (h : w.ownsMap Try.prog K tokR b n D) : w.ownsMap Try.prog K tokR b (Maps.size D) D := by
  obtain ⟨es, clock, hb, F, hs, hD⟩ := h
  refine ⟨es, clock, hb, F, ?_, hD⟩
  rw [hD]
  simp [Maps.size, length_sorted]

theorem MapIs.made (w : World) (K : TypeId) : MapIs (w.alloc (.map #[] 0)) w.heap.size K (fun _ => none) 0 :=
  ⟨.map [], World.ownsMap_made _ _ _ _, rfl, fun _ => rfl, fun _ _ h => by cases h⟩

theorem MapIs.lt {w : World} {b : Nat} {K : TypeId} {f : Lit → Option Value} {n : Nat} (h : MapIs w b K f n) : b < w.heap.size := by
  obtain ⟨D, h, _⟩ := h
  exact h.lt

theorem MapIs.of_block {w w' : World} {b : Nat} {K : TypeId} {f : Lit → Option Value} {n : Nat} (h : MapIs w b K f n) (e : w'.heap[b]? = w.heap[b]?) : MapIs w' b K f n := by
  obtain ⟨D, ⟨es, clock, hb, r⟩, h2⟩ := h
  exact ⟨D, ⟨es, clock, e.trans hb, r⟩, h2⟩

theorem MapIs.congr {w : World} {b : Nat} {K : TypeId} {f g : Lit → Option Value} {n : Nat} (h : MapIs w b K f n) (e : ∀ x, f x = g x) : MapIs w b K g n := by
  have : f = g := funext e
  rw [← this]; exact h

/-- A map's block is no row of cells. -/
theorem MapIs.no_cell {w : World} {b : Nat} {K : TypeId} {f : Lit → Option Value} {n : Nat} (h : MapIs w b K f n) {o : Nat} {v : Value} (hc : w.cell? ⟨b, o, none⟩ = some v) : False := by
  obtain ⟨D, ⟨es, clock, hb, _⟩, _⟩ := h
  simp [World.cell?, hb] at hc

/-- 'm[k]'. -/
theorem MapIs.look {w : World} {b : Nat} {K : TypeId} {f : Lit → Option Value} {n : Nat} (h : MapIs w b K f n) {t e : TypeId} (KL : Keyed Try.prog K) (ht : Try.prog.underlying t = some (.map K e)) {z : Value} (hz : ∀ w, (zeroValue e).run Try.prog w = .ok z w)
    {key : Value} {kl : Lit} (hkey : keyOf Try.prog K key = some kl) : (Instr.lookup t (.map (some b)) key false).run Try.prog w = .ok ((f kl).getD z) w := by
  obtain ⟨D, ho, _, hs⟩ := h
  obtain ⟨v, ps, hrun, hv⟩ := ho.lookup KL ht (hz w) (zd := .held z) (zp := []) rfl hkey
  rw [hrun]
  simp only [tokR, Option.some.injEq, Prod.mk.injEq] at hv
  cases hf : f kl with
  | none =>
    have hh := hs.1 kl
    rw [hf] at hh
    rw [Maps.atKey_of_not_has hh] at hv
    have := hv.1
    simp only [DataW.held.injEq] at this
    rw [this]; rfl
  | some u =>
    rw [hs.2 kl u hf] at hv
    have := hv.1
    simp only [DataW.held.injEq] at this
    rw [this]; rfl

/-- 'v, ok := m[k]'. -/
theorem MapIs.look_ok {w : World} {b : Nat} {K : TypeId} {f : Lit → Option Value} {n : Nat} (h : MapIs w b K f n) {t e : TypeId} (KL : Keyed Try.prog K) (ht : Try.prog.underlying t = some (.map K e)) {z : Value} (hz : ∀ w, (zeroValue e).run Try.prog w = .ok z w)
    {key : Value} {kl : Lit} (hkey : keyOf Try.prog K key = some kl) : (Instr.lookup t (.map (some b)) key true).run Try.prog w = .ok (.tuple #[(f kl).getD z, .bool (f kl).isSome]) w := by
  obtain ⟨D, ho, _, hs⟩ := h
  obtain ⟨v, ps, hrun, hv⟩ := ho.look_ok KL ht (hz w) (zd := .held z) (zp := []) rfl hkey
  rw [hrun, hs.1 kl]
  simp only [tokR, Option.some.injEq, Prod.mk.injEq] at hv
  cases hf : f kl with
  | none =>
    have hh := hs.1 kl
    rw [hf] at hh
    rw [Maps.atKey_of_not_has hh] at hv
    have := hv.1
    simp only [DataW.held.injEq] at this
    rw [this]; rfl
  | some u =>
    rw [hs.2 kl u hf] at hv
    have := hv.1
    simp only [DataW.held.injEq] at this
    rw [this]; rfl

/-- 'len(m)'. -/
theorem MapIs.len {w : World} {b : Nat} {K : TypeId} {f : Lit → Option Value} {n : Nat} (h : MapIs w b K f n) {t e : TypeId} (ht : Try.prog.underlying t = some (.map K e)) (ty : TypeId) : (Builtin.len_ #[t] ty #[.map (some b)]).run Try.prog w = .ok (.int .i64 (n : Int)) w := by
  obtain ⟨D, ho, hn, _⟩ := h
  rw [ho.len ht ty, hn]

theorem Says.put {D : DataW Value} {f : Lit → Option Value} (h : Says D f) (hm : Maps.IsMap D) {kl : Lit} (hk : WideAt.IsKeyLit kl) (v : Value) : Says (D.put kl (.held v)) (upd f kl (some v)) := by
  refine ⟨fun x => ?_, fun x u hu zd => ?_⟩
  · by_cases e : x = kl
    · subst e; rw [Maps.has_put_same hm hk, upd_same _ hk]; rfl
    · rw [Maps.has_put_other e, upd_other _ _ e]; exact h.1 x
  · by_cases e : x = kl
    · subst e
      rw [upd_same _ hk] at hu
      cases hu
      exact Maps.atKey_put_same hm hk _ _
    · rw [upd_other _ _ e] at hu
      rw [Maps.atKey_put_other e]
      exact h.2 x u hu zd

theorem Says.del {D : DataW Value} {f : Lit → Option Value} (h : Says D f) {kl : Lit} (hk : WideAt.IsKeyLit kl) : Says (D.del kl) (upd f kl none) := by
  refine ⟨fun x => ?_, fun x u hu zd => ?_⟩
  · by_cases e : x = kl
    · subst e; rw [Maps.has_del_same, upd_same _ hk]; rfl
    · rw [Maps.has_del_other e, upd_other _ _ e]; exact h.1 x
  · by_cases e : x = kl
    · subst e; rw [upd_same _ hk] at hu; cases hu
    · rw [upd_other _ _ e] at hu
      rw [Maps.atKey_del_other e]
      exact h.2 x u hu zd

/-- How many entries there are behind a store, behind a delete. -/
def putN (f : Lit → Option Value) (k : Lit) (n : Nat) : Nat := if (f k).isSome then n else n + 1
def delN (f : Lit → Option Value) (k : Lit) (n : Nat) : Nat := if (f k).isSome then n - 1 else n

/-- 'm[k] = v'. -/
theorem MapIs.store {w : World} {b : Nat} {K : TypeId} {f : Lit → Option Value} {n : Nat} (h : MapIs w b K f n) {t e : TypeId} (KL : Keyed Try.prog K) (ht : Try.prog.underlying t = some (.map K e)) (hn : n < 1000000) {key : Value} {kl : Lit} (hkey : keyOf Try.prog K key = some kl) (v : Value) :
    ∃ w', (Instr.mapUpdate t (.map (some b)) key v).run Try.prog w = .ok () w' ∧ MapIs w' b K (upd f kl (some v)) (putN f kl n) ∧ w.mapTurned w' b := by
  obtain ⟨D, ho, hsz, hs⟩ := h
  obtain ⟨w', hrun, ho', ht'⟩ := ho.store KL ht (by unfold maxLen; omega) hkey (d := .held v) (ps := []) rfl
  have hsz' : Maps.size (D.put kl (.held v)) = putN f kl n := by rw [Maps.size_put (ho.tidy KL), hs.1 kl, hsz]; rfl
  exact ⟨w', hrun, ⟨_, hsz' ▸ ownsMap_tight ho', hsz', hs.put ho.isMap (KL.key hkey) v⟩, ht'⟩

/-- 'delete(m, k)'. -/
theorem MapIs.drop {w : World} {b : Nat} {K : TypeId} {f : Lit → Option Value} {n : Nat} (h : MapIs w b K f n) {t e : TypeId} (KL : Keyed Try.prog K) (ht : Try.prog.underlying t = some (.map K e)) {key : Value} {kl : Lit} (hkey : keyOf Try.prog K key = some kl) (ty : TypeId) :
    ∃ w', (Builtin.delete_ #[t, K] ty #[.map (some b), key]).run Try.prog w = .ok (.tuple #[]) w' ∧ MapIs w' b K (upd f kl none) (delN f kl n) ∧ w.mapTurned w' b := by
  obtain ⟨D, ho, hsz, hs⟩ := h
  obtain ⟨w', hrun, ho', ht'⟩ := ho.drop KL ht hkey ty
  have hsz' : Maps.size (D.del kl) = delN f kl n := by
    have := Maps.size_del (k := kl) (ho.tidy KL)
    rw [hs.1 kl, hsz] at this
    unfold delN
    cases hf : (f kl).isSome
    · rw [hf] at this; simpa using this
    · rw [hf] at this; simp at this ⊢; omega
  exact ⟨w', hrun, ⟨_, hsz' ▸ ownsMap_tight ho', hsz', hs.del (KL.key hkey)⟩, ht'⟩

section
variable {w : World} {ops : Array Oper} {rest : List Oper} {o : Oper} {a : Act} {Q : Exit → Act → World → Prop}

theorem wpList_look (hg : o.guard = none) (m x : Operand) (t : TypeId) (hop : o.op = Op.lookup t m x false) {b : Nat} {K : TypeId} {f : Lit → Option Value} {n : Nat} (h : MapIs w b K f n) {e : TypeId} (KL : Keyed Try.prog K) (ht : Try.prog.underlying t = some (.map K e)) {z : Value} (hz : ∀ w, (zeroValue e).run Try.prog w = .ok z w)
    (hm : a.eval m = .map (some b)) {key : Value} {kl : Lit} (hx : a.eval x = key) (hkey : keyOf Try.prog K key = some kl) (v : Value) (hv : (f kl).getD z = v)
    (hK : wpList Try.prog ops Q rest (a.put o.dst v) w) : wpList Try.prog ops Q (o :: rest) a w := by
  refine wpList_plain hg fun K' hK' => ?_
  have hrun := h.look KL ht hz hkey
  rw [hv] at hrun
  unfold Oper.wp
  simp [execOp, hop, hm, hx, hrun, Result.andThen]
  exact hK' _ _ hK

theorem wpList_look_ok (hg : o.guard = none) (m x : Operand) (t : TypeId) (hop : o.op = Op.lookup t m x true) {b : Nat} {K : TypeId} {f : Lit → Option Value} {n : Nat} (h : MapIs w b K f n) {e : TypeId} (KL : Keyed Try.prog K) (ht : Try.prog.underlying t = some (.map K e)) {z : Value} (hz : ∀ w, (zeroValue e).run Try.prog w = .ok z w)
    (hm : a.eval m = .map (some b)) {key : Value} {kl : Lit} (hx : a.eval x = key) (hkey : keyOf Try.prog K key = some kl) (v : Value) (r : Bool) (hv : (f kl).getD z = v) (hr : (f kl).isSome = r)
    (hK : wpList Try.prog ops Q rest (a.put o.dst (.tuple #[v, .bool r])) w) : wpList Try.prog ops Q (o :: rest) a w := by
  refine wpList_plain hg fun K' hK' => ?_
  have hrun := h.look_ok KL ht hz hkey
  rw [hv, hr] at hrun
  unfold Oper.wp
  simp [execOp, hop, hm, hx, hrun, Result.andThen]
  exact hK' _ _ hK

theorem wpList_len (hg : o.guard = none) (m : Operand) (t : TypeId) (hop : o.op = Op.call { callee := Callee.builtin Builtin.len, args := #[m], argTypes := #[t] }) {b : Nat} {K : TypeId} {f : Lit → Option Value} {n : Nat} (h : MapIs w b K f n) {e : TypeId} (ht : Try.prog.underlying t = some (.map K e)) (hm : a.eval m = .map (some b))
    (hK : wpList Try.prog ops Q rest (a.put o.dst (.int .i64 (n : Int))) w) : wpList Try.prog ops Q (o :: rest) a w := by
  refine wpList_plain hg fun K' hK' => ?_
  unfold Oper.wp
  simp [execOp, hop, resolve, invoke, builtin, hm, h.len ht o.type, Result.andThen]
  exact hK' _ _ hK

theorem wpList_store (hg : o.guard = none) (m x v : Operand) (t : TypeId) (hop : o.op = Op.mapUpdate t m x v) {b : Nat} {K : TypeId} {f : Lit → Option Value} {n : Nat} (h : MapIs w b K f n) {e : TypeId} (KL : Keyed Try.prog K) (ht : Try.prog.underlying t = some (.map K e)) (hn : n < 1000000)
    (hm : a.eval m = .map (some b)) {key : Value} {kl : Lit} (hx : a.eval x = key) (hkey : keyOf Try.prog K key = some kl) {val : Value} (hv : a.eval v = val)
    (hK : ∀ w', MapIs w' b K (upd f kl (some val)) (putN f kl n) → w.mapTurned w' b → wpList Try.prog ops Q rest (a.put o.dst undef) w') : wpList Try.prog ops Q (o :: rest) a w := by
  refine wpList_plain hg fun K' hK' => ?_
  obtain ⟨w', hrun, r1, r2⟩ := h.store KL ht hn hkey val
  unfold Oper.wp
  simp [execOp, hop, hm, hx, hv, hrun, Result.andThen]
  exact hK' _ _ (hK w' r1 r2)

theorem wpList_drop (hg : o.guard = none) (m x : Operand) (t K : TypeId) (hop : o.op = Op.call { callee := Callee.builtin Builtin.delete, args := #[m, x], argTypes := #[t, K] }) {b : Nat} {f : Lit → Option Value} {n : Nat} (h : MapIs w b K f n) {e : TypeId} (KL : Keyed Try.prog K) (ht : Try.prog.underlying t = some (.map K e))
    (hm : a.eval m = .map (some b)) {key : Value} {kl : Lit} (hx : a.eval x = key) (hkey : keyOf Try.prog K key = some kl)
    (hK : ∀ w', MapIs w' b K (upd f kl none) (delN f kl n) → w.mapTurned w' b → wpList Try.prog ops Q rest (a.put o.dst (.tuple #[])) w') : wpList Try.prog ops Q (o :: rest) a w := by
  refine wpList_plain hg fun K' hK' => ?_
  obtain ⟨w', hrun, r1, r2⟩ := h.drop KL ht hkey o.type
  unfold Oper.wp
  simp [execOp, hop, resolve, invoke, builtin, hm, hx, hrun, Result.andThen]
  exact hK' _ _ (hK w' r1 r2)
end

end Go.Proofs.Qxb6617896a
