import Derived.Test.Qxb6617896aOf
import Derived.Test.Qxb6617896aFlat2
namespace Go.Proofs.Qxb6617896a
open Go.ChangeShapes Go.WideShapes Go.ChangeAt Go.RowKit
open Go.Maps (Keyed)

theorem MapIs.unique {w : World} {b : Nat} {K : TypeId} {f g : Lit → Option Value} {n m : Nat} (h : MapIs w b K f n) (h' : MapIs w b K g m) : n = m ∧ ∀ x, f x = g x := by
  obtain ⟨D, ⟨es, clock, hb, _, _, hD⟩, hn, hs⟩ := h
  obtain ⟨D', ⟨es', clock', hb', _, _, hD'⟩, hn', hs'⟩ := h'
  rw [hb] at hb'
  simp only [Option.some.injEq, Obj.map.injEq] at hb'
  obtain ⟨rfl, rfl⟩ := hb'
  have e : D = D' := by rw [hD, hD']
  subst e
  refine ⟨hn.symm.trans hn', fun x => ?_⟩
  have h1 := hs.1 x
  have h2 := hs'.1 x
  cases hf : f x with
  | none =>
    cases hg : g x with
    | none => rfl
    | some v => rw [hf] at h1; rw [hg] at h2; rw [h1] at h2; simp at h2
  | some u =>
    cases hg : g x with
    | none => rw [hf] at h1; rw [hg] at h2; rw [h1] at h2; simp at h2
    | some v =>
      have a1 := hs.2 x u hf (.held u)
      have a2 := hs'.2 x v hg (.held u)
      rw [a1] at a2
      simp only [DataW.held.injEq] at a2
      rw [a2]

section
variable {w w' : World} {rb : Nat} {S Vb : Nat → Prop} {es : List Ent} {hs : List Hold} {B : Int} {N bk bf : Nat} {blk : ByteArray → Nat}

/-- One reply of c is struck. -/
theorem Rep.delInner (h : Rep w rb S Vb es hs B N bk bf blk) (hd : ∀ k, Vb k → ¬ S k) (hn : NodE es) {c : ByteArray} {s : Int} (hc : (holdOf hs c).isSome) {fi : Lit → Option Value} (hfi : MapIs w (blk c) 31 fi (cnt es c))
    (hm : MapIs w' (blk c) 31 (upd fi (ik s) none) (delN fi (ik s) (cnt es c))) (ht : w.mapTurned w' (blk c)) : Rep w' rb S Vb (delE es c s) hs B N bk bf blk := by
  have ho : ∀ k, k ≠ blk c → w'.heap[k]? = w.heap[k]? := fun k hk => turned_block ht hk
  have hv : ∀ k, Vb k → k < w.heap.size → w'.heap[k]? = w.heap[k]? := fun k hv _ => ho k (fun e => hd k hv (e ▸ h.sI c hc))
  obtain ⟨fk, hm1, hf⟩ := h.kept
  obtain ⟨ff, nf, hm2, hnf, hf2⟩ := h.flo
  refine ⟨(ho rb (fun e => map_ne_str h hfi e.symm)).trans h.str, ⟨fk, hm1.of_block (ho bk (fun e => h.dIK c hc e.symm)), hf⟩, fun x hx => ?_, ⟨ff, nf, hm2.of_block (ho bf (fun e => h.dIF c hc e.symm)), hnf, hf2⟩, h.sR, h.sK, h.sF, h.sI, h.dKF, h.dIK, h.dIF, h.dI⟩
  by_cases e : x = c
  · subst e
    obtain ⟨fi', hm', hf'⟩ := h.inner x hc
    have hu := (hfi.unique hm').2
    have hcn : delN fi (ik s) (cnt es x) = cnt (delE es x s) x := by
      unfold delN
      rw [hu]
      cases hfe : findE es x s with
      | none => rw [(hf' s).1 hfe, delE_none hfe]; rfl
      | some e0 =>
        obtain ⟨v, hv', _⟩ := (hf' s).2 e0 hfe
        rw [hv']
        have := (delE_one hn hfe).1
        simp
        omega
    rw [hcn] at hm
    refine ⟨_, hm, fun t => ?_⟩
    rw [findE_delE]
    by_cases et : t = s
    · subst et
      rw [if_pos ⟨rfl, rfl⟩, upd_same _ (ik_key _)]
      exact ⟨fun _ => rfl, fun e he => by cases he⟩
    · rw [if_neg (fun h' => et h'.2), upd_other _ _ (fun e' => et (ik_inj e')), hu]
      refine ⟨(hf' t).1, fun e he => ?_⟩
      obtain ⟨v, hv', a, c0, rfl, hsl⟩ := (hf' t).2 e he
      exact ⟨_, hv', a, c0, rfl, hsl.carry ht.grown.size hv⟩
  · obtain ⟨fx, hmx, hfx⟩ := (h.inner x hx).carry ht.grown.size (ho _ (fun e' => e (h.dI x c hx hc e'))) hv
    refine ⟨fx, ?_, fun t => ?_⟩
    · rw [cnt_delE_other es s e]; exact hmx
    · rw [findE_delE, if_neg (fun h' => e h'.1)]; exact hfx t

/-- A reply of c is kept. -/
theorem Rep.putInner (h : Rep w rb S Vb es hs B N bk bf blk) (hd : ∀ k, Vb k → ¬ S k) {c : ByteArray} {s i : Int} {v : List Int} (hc : (holdOf hs c).isSome) {fi : Lit → Option Value} (hfi : MapIs w (blk c) 31 fi (cnt es c)) {a : Option Addr} {cp : Nat} (hval : SlV w Vb a v.length cp (fun j => .int .u8 (v.getD j 0)))
    (hm : MapIs w' (blk c) 31 (upd fi (ik s) (some (.agg #[.int .u64 i, .slice a v.length cp]))) (putN fi (ik s) (cnt es c))) (ht : w.mapTurned w' (blk c)) : Rep w' rb S Vb (putE es c s i v) hs B N bk bf blk := by
  have ho : ∀ k, k ≠ blk c → w'.heap[k]? = w.heap[k]? := fun k hk => turned_block ht hk
  have hv : ∀ k, Vb k → k < w.heap.size → w'.heap[k]? = w.heap[k]? := fun k hv _ => ho k (fun e => hd k hv (e ▸ h.sI c hc))
  obtain ⟨fk, hm1, hf⟩ := h.kept
  obtain ⟨ff, nf, hm2, hnf, hf2⟩ := h.flo
  refine ⟨(ho rb (fun e => map_ne_str h hfi e.symm)).trans h.str, ⟨fk, hm1.of_block (ho bk (fun e => h.dIK c hc e.symm)), hf⟩, fun x hx => ?_, ⟨ff, nf, hm2.of_block (ho bf (fun e => h.dIF c hc e.symm)), hnf, hf2⟩, h.sR, h.sK, h.sF, h.sI, h.dKF, h.dIK, h.dIF, h.dI⟩
  by_cases e : x = c
  · subst e
    obtain ⟨fi', hm', hf'⟩ := h.inner x hc
    have hu := (hfi.unique hm').2
    have hcn : putN fi (ik s) (cnt es x) = cnt (putE es x s i v) x := by
      unfold putN
      rw [hu, cnt_putE]
      cases hfe : findE es x s with
      | none => rw [(hf' s).1 hfe]; simp
      | some e0 =>
        obtain ⟨v', hv', _⟩ := (hf' s).2 e0 hfe
        rw [hv']
        simp
    rw [hcn] at hm
    refine ⟨_, hm, fun t => ?_⟩
    rw [findE_putE]
    by_cases et : t = s
    · subst et
      rw [if_pos ⟨rfl, rfl⟩, upd_same _ (ik_key _)]
      refine ⟨fun h' => (by cases h'), fun e he => ?_⟩
      cases he
      exact ⟨_, rfl, a, cp, rfl, hval.carry ht.grown.size hv⟩
    · rw [if_neg (fun h' => et h'.2), upd_other _ _ (fun e' => et (ik_inj e')), hu]
      refine ⟨(hf' t).1, fun e he => ?_⟩
      obtain ⟨v', hv', a, c0, rfl, hsl⟩ := (hf' t).2 e he
      exact ⟨_, hv', a, c0, rfl, hsl.carry ht.grown.size hv⟩
  · obtain ⟨fx, hmx, hfx⟩ := (h.inner x hx).carry ht.grown.size (ho _ (fun e' => e (h.dI x c hx hc e'))) hv
    refine ⟨fx, ?_, fun t => ?_⟩
    · rw [cnt_putE, if_neg (fun h' => e h'.1)]; exact hmx
    · rw [findE_putE, if_neg (fun h' => e h'.1)]; exact hfx t

end

/-- A map (keys of type K) in block b, with an iterator over it in block r: 'left' says which keys are still to come. -/
def RangeIs (w : World) (b : Nat) (K : TypeId) (r : Nat) (f : Lit → Option Value) (n : Nat) (left : Lit → Bool) (cn : Nat) : Prop :=
  ∃ D : DataW Value, w.ranges Try.prog K tokR b r n D left cn ∧ Maps.size D = n ∧ Says D f

theorem RangeIs.owns {w : World} {b : Nat} {K : TypeId} {r : Nat} {f : Lit → Option Value} {n : Nat} {left : Lit → Bool} {cn : Nat} (h : RangeIs w b K r f n left cn) : MapIs w b K f n := by
  obtain ⟨D, hr, hn, hs⟩ := h
  exact ⟨D, hr.owns, hn, hs⟩

theorem RangeIs.kept {w w' : World} {b : Nat} {K : TypeId} {r : Nat} {f : Lit → Option Value} {n : Nat} {left : Lit → Bool} {cn : Nat} (h : RangeIs w b K r f n left cn) (hb : w'.heap[b]? = w.heap[b]?) (hr : w'.heap[r]? = w.heap[r]?) : RangeIs w' b K r f n left cn := by
  obtain ⟨D, ⟨es, clock, since, seen, c0, h1, h2, h3, h4, h5, h6⟩, hn, hs⟩ := h
  exact ⟨D, ⟨es, clock, since, seen, c0, hb.trans h1, h2, h3, h4, hr.trans h5, h6⟩, hn, hs⟩

theorem RangeIs.lt {w : World} {b : Nat} {K : TypeId} {r : Nat} {f : Lit → Option Value} {n : Nat} {left : Lit → Bool} {cn : Nat} (h : RangeIs w b K r f n left cn) : r < w.heap.size := by
  obtain ⟨D, hr, _⟩ := h
  exact hr.lt

theorem RangeIs.left_eq {w : World} {b : Nat} {K : TypeId} {r : Nat} {f : Lit → Option Value} {n : Nat} {left : Lit → Bool} {cn : Nat} (h : RangeIs w b K r f n left cn) : w.rangeLeft b r = cn := by
  obtain ⟨D, hr, _⟩ := h
  exact hr.left_eq

theorem ranges_tight {w : World} {K b r n : Nat} {D : DataW Value} {left : Lit → Bool} {cn : Nat} (h : w.ranges Try.prog K tokR b r n D left cn) : w.ranges Try.prog K tokR b r (Maps.size D) D left cn := by
  obtain ⟨es, clock, since, seen, c0, h1, h2, h3, h4, h5⟩ := h
  refine ⟨es, clock, since, seen, c0, h1, h2, ?_, h4, h5⟩
  rw [h4]
  simp [Maps.size, length_sorted]

section
variable {w : World} {ops : Array Oper} {rest : List Oper} {o : Oper} {a : Act} {Q : Exit → Act → World → Prop}

/-- 'range m'. -/
theorem wpList_rangeIs (hg : o.guard = none) (m : Operand) (t : TypeId) (hop : o.op = Op.range t m) {b : Nat} {K : TypeId} {f : Lit → Option Value} {n : Nat} (h : MapIs w b K f n) {e : TypeId} (KL : Keyed Try.prog K) (ht : Try.prog.underlying t = some (.map K e)) (hm : a.eval m = .map (some b))
    (hK : ∀ w', RangeIs w' b K w.heap.size f n (fun kl => (f kl).isSome) n → w.grownBy w' none → w'.heap.size = w.heap.size + 1 → wpList Try.prog ops Q rest (a.put o.dst (.pointer (some ⟨w.heap.size, 0, none⟩))) w') :
    wpList Try.prog ops Q (o :: rest) a w := by
  obtain ⟨D, ho, hn, hs⟩ := h
  refine wpList_range_own w hg m t hop K e KL ht tokR b n D hm ho (fun w' r1 r2 r3 => hK w' ⟨D, ?_, hn, hs⟩ r2 r3)
  have : Maps.has D = fun kl => (f kl).isSome := funext hs.1
  rw [← this]
  rw [hn] at r1
  exact r1

/-- The step, keys of type uint64, elements that are Kept: (index, value). -/
theorem wpList_nextIs (hg : o.guard = none) (it : Operand) (hop : o.op = Op.next it false) {b r n : Nat} {K : TypeId} (KL : Keyed Try.prog K) {f : Lit → Option Value} {left : Lit → Bool} {cn : Nat} {α β : Type} (mkK : α → Value) (mkV : β → Value)
    (invK : ∀ key kl, keyOf Try.prog K key = some kl → ∃ x, key = mkK x) (invV : ∀ x kl v, keyOf Try.prog K (mkK x) = some kl → f kl = some v → ∃ y, v = mkV y) (hleft : ∀ kl, left kl = true → (f kl).isSome)
    (hit : a.eval it = .pointer (some ⟨r, 0, none⟩)) (h : RangeIs w b K r f n left cn)
    (hDone : cn = 0 → (∀ kl, left kl = false) → wpList Try.prog ops Q rest (a.put o.dst (.tuple #[.bool false])) w)
    (hMore : ∀ (x : α) (y : β) (kl : Lit) (w' : World) (cn' : Nat), keyOf Try.prog K (mkK x) = some kl → left kl = true → f kl = some (mkV y) → RangeIs w' b K r f n (fun z => left z && !z.sameKey kl) cn' → cn' < cn →
      w.grownBy w' (some r) → w'.heap.size = w.heap.size → (Instr.entry (.pointer (some ⟨r, 0, none⟩))).run Try.prog w' = .ok (.tuple #[mkK x, mkV y]) w' → wpList Try.prog ops Q rest (a.put o.dst (.tuple #[.bool true, mkK x, mkV y])) w') :
    wpList Try.prog ops Q (o :: rest) a w := by
  obtain ⟨D, hr, hn, hs⟩ := h
  refine wpList_plain hg fun K' hK' => ?_
  unfold Oper.wp
  rcases hr.next KL o.type with ⟨h0, hl, hrun⟩ | ⟨key, v, kl, y, w', cn', hkey, hlk, hv, hat, hrun, hrg, hlt, hgr, hsz, hen⟩
  · simp [execOp, hop, hit, hrun, Result.andThen]
    exact hK' _ _ (hDone h0 hl)
  · obtain ⟨x, rfl⟩ := invK key kl hkey
    have hsome := hleft kl hlk
    cases hf : f kl with
    | none => rw [hf] at hsome; cases hsome
    | some u =>
      have e1 := hs.2 kl u hf (.held u)
      rw [hat] at e1
      simp only [tokR, Option.some.injEq] at hv
      rw [← hv] at e1
      simp only [DataW.held.injEq] at e1
      subst e1
      obtain ⟨z, rfl⟩ := invV x kl v hkey hf
      simp [execOp, hop, hit, hrun, Result.andThen]
      exact hK' _ _ (hMore x z kl w' cn' hkey hlk hf ⟨D, hrg, hn, hs⟩ hlt hgr hsz hen)

/-- 'delete(m, k)' in the round. -/
theorem wpList_dropR (hg : o.guard = none) (m x : Operand) (t K : TypeId) (hop : o.op = Op.call { callee := Callee.builtin Builtin.delete, args := #[m, x], argTypes := #[t, K] }) {b r n : Nat} {f : Lit → Option Value} {left : Lit → Bool} {cn : Nat} (h : RangeIs w b K r f n left cn) {e : TypeId} (KL : Keyed Try.prog K) (ht : Try.prog.underlying t = some (.map K e))
    (hm : a.eval m = .map (some b)) {key : Value} {kl : Lit} (hx : a.eval x = key) (hkey : keyOf Try.prog K key = some kl)
    (hK : ∀ w' cn', RangeIs w' b K r (upd f kl none) (delN f kl n) (fun z => left z && !z.sameKey kl) cn' → cn' ≤ cn → w.mapTurned w' b → wpList Try.prog ops Q rest (a.put o.dst (.tuple #[])) w') : wpList Try.prog ops Q (o :: rest) a w := by
  obtain ⟨D, hr, hn, hs⟩ := h
  refine wpList_plain hg fun K' hK' => ?_
  obtain ⟨w', cn', hrun, r1, r2, r3⟩ := hr.drop KL ht hkey o.type
  have hsz' : Maps.size (D.del kl) = delN f kl n := by
    have := Maps.size_del (k := kl) (hr.owns.tidy KL)
    rw [hs.1 kl, hn] at this
    unfold delN
    cases hf : (f kl).isSome
    · rw [hf] at this; simpa using this
    · rw [hf] at this; simp at this ⊢; omega
  unfold Oper.wp
  simp [execOp, hop, resolve, invoke, builtin, hm, hx, hrun, Result.andThen]
  exact hK' _ _ (hK w' cn' ⟨_, hsz' ▸ ranges_tight r1, hsz', hs.del (KL.key hkey)⟩ r2 r3)
end

end Go.Proofs.Qxb6617896a
