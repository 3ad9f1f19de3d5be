import Derived.Test.Qxb6617896aRep
namespace Go.Proofs.Qxb6617896a
open Go.ChangeShapes Go.WideShapes Go.ChangeAt Go.RowKit
open Go.Maps (Keyed)

/-- (*Replies).of, where c is held. -/
theorem of_held {rb : Nat} {S Vb : Nat → Prop} {es : List Ent} {hs : List Hold} {B : Int} {N bk bf : Nat} {blk : ByteArray → Nat} (c : ByteArray) (w : World) (hc : c.size ≤ maxLen) (hh : (holdOf hs c).isSome = true) (h : Rep w rb S Vb es hs B N bk bf blk) :
    Calls Try.prog 52 #[.pointer (some ⟨rb, 0, none⟩), .string c] w fun e w' => e = .returned (.map (some (blk c))) ∧ w' = w := by
  have q61 : ∀ (w : World) (r : Option Nat), (binOp .eql 61 (.map r) (.map none)).run Try.prog w = .ok (.bool r.isNone) w := fun w r => run_eql_map_nil w _ _ _ r Try.underlying61
  have q62 : ∀ (w : World) (r : Option Nat), (binOp .eql 62 (.map r) (.map none)).run Try.prog w = .ok (.bool r.isNone) w := fun w r => run_eql_map_nil w _ _ _ r Try.underlying62
  have q77 : ∀ (w : World) (r : Option Nat), (binOp .eql 77 (.map r) (.map none)).run Try.prog w = .ok (.bool r.isNone) w := fun w r => run_eql_map_nil w _ _ _ r Try.underlying77
  have h0 := h.cell0
  have h2 := h.cell2
  obtain ⟨fk, hm, hf⟩ := h.kept
  have HM : Hid (MapIs w bk 9 fk hs.length) := hm
  have HV : Hid ((fk (sk c)).getD (.map none) = .map (some (blk c))) := by unfold Hid; rw [hf c, hh]; rfl
  clear hm hf h hh
  go_enter Try.func52, Try.ntmps52
  go_wp2_with (at_lookup; refine wpList_look rfl _ _ 61 rfl HM.out kl9 Try.underlying61 zero77 rfl rfl (keyS hc) _ HV.out ?_)
  go_ret
  exact ⟨rfl, rfl⟩

/-- .. where it is not: it is from now on. -/
theorem of_new {rb : Nat} {S Vb : Nat → Prop} {es : List Ent} {hs : List Hold} {B : Int} {N bk bf : Nat} {blk : ByteArray → Nat} (c : ByteArray) (w : World) (hc : c.size ≤ maxLen) (hh : holdOf hs c = none) (hno : ∀ e ∈ es, e.c ≠ c) (hl : hs.length < 1000000)
    (hd : ∀ k, Vb k → ¬ S k) (hup : ∀ k, w.heap.size ≤ k → S k) (h : Rep w rb S Vb es hs B N bk bf blk) :
    Calls Try.prog 52 #[.pointer (some ⟨rb, 0, none⟩), .string c] w fun e w' => e = .returned (.map (some w.heap.size)) ∧ Rep w' rb S Vb es (hs ++ [⟨c, 0, 0⟩]) B N bk bf (fun x => if x = c then w.heap.size else blk x) ∧ Tch S w w' ∧ ∀ k, k ≠ bk → k < w.heap.size → w'.heap[k]? = w.heap[k]? := by
  have q61 : ∀ (w : World) (r : Option Nat), (binOp .eql 61 (.map r) (.map none)).run Try.prog w = .ok (.bool r.isNone) w := fun w r => run_eql_map_nil w _ _ _ r Try.underlying61
  have q62 : ∀ (w : World) (r : Option Nat), (binOp .eql 62 (.map r) (.map none)).run Try.prog w = .ok (.bool r.isNone) w := fun w r => run_eql_map_nil w _ _ _ r Try.underlying62
  have q77 : ∀ (w : World) (r : Option Nat), (binOp .eql 77 (.map r) (.map none)).run Try.prog w = .ok (.bool r.isNone) w := fun w r => run_eql_map_nil w _ _ _ r Try.underlying77
  have hmm := @run_makeMap Try.prog
  have h0 := h.cell0
  have h2 := h.cell2
  have hr := h.ltR
  obtain ⟨fk, hm, hf⟩ := h.kept
  have HM : Hid (MapIs w bk 9 fk hs.length) := hm
  have HF : Hid (∀ c, fk (sk c) = if (holdOf hs c).isSome then some (.map (some (blk c))) else none) := hf
  have HV : Hid ((fk (sk c)).getD (.map none) = .map none) := by unfold Hid; rw [hf c, hh]; rfl
  have HR : Hid (Rep w rb S Vb es hs B N bk bf blk) := h
  clear hm hf h
  go_enter Try.func52, Try.ntmps52
  go_wp2_with (first | (at_lookup; refine wpList_look rfl _ _ 61 rfl HM.out kl9 Try.underlying61 zero77 rfl rfl (keyS hc) _ HV.out ?_) | (at_mapUpdate; refine wpList_store rfl _ _ _ 61 rfl (HM.out.of_block (Below.heap_alloc _ _ _ HM.out.lt)) kl9 Try.underlying61 hl rfl rfl (keyS hc) rfl ?_; intro w1 hm1 ht1; have HM1 := hide hm1; have HT1 := hide ht1; clear hm1 ht1))
  go_ret
  refine ⟨rfl, HR.out.holdNew hd hup hh hno HF.out HM1.out HT1.out, ((Tch.refl S w).alloc (hup _ (Nat.le_refl _)) _).turned HT1.out HR.out.sK, fun k hk hl => (turned_block HT1.out hk).trans (Below.heap_alloc _ _ _ hl)⟩

/-- The zero value of Replies. -/
def RepNil (w : World) (rb : Nat) : Prop := w.heap[rb]? = some (.cells #[.map none, .int .i64 0, .map none] 64 (0, 0))

theorem Rep.start {w : World} {rb : Nat} {S Vb : Nat → Prop} {bk bf : Nat} {blk : ByteArray → Nat} (h : w.heap[rb]? = some (.cells #[.map (some bk), .int .i64 0, .map (some bf)] 64 (0, 0))) (hk : MapIs w bk 9 (fun _ => none) 0) (hf : MapIs w bf 9 (fun _ => none) 0) (sR : S rb) (sK : S bk) (sF : S bf) (hne : bk ≠ bf) :
    Rep w rb S Vb [] [] 0 0 bk bf blk :=
  ⟨h, ⟨_, hk, fun c => by simp [holdOf]⟩, fun c hc => (by simp [holdOf] at hc), ⟨_, _, hf, Nat.le_refl _, fun c => by simp [holdOf, FlOk]⟩, sR, sK, sF, fun c hc => (by simp [holdOf] at hc), hne, fun c hc => (by simp [holdOf] at hc), fun c hc => (by simp [holdOf] at hc), fun c _ hc => (by simp [holdOf] at hc)⟩

theorem Rep.start2 {w : World} {rb : Nat} {S Vb : Nat → Prop} (hup : ∀ k, w.heap.size ≤ k → S k) (hS : S rb) (h : RepNil w rb) :
    Rep ((((w.setCell ⟨rb, 0, none⟩ (.map (some w.heap.size))).setCell ⟨rb, 2, none⟩ (.map (some (w.heap.size + 1)))).alloc (.map #[] 0)).alloc (.map #[] 0)) rb S Vb [] [] 0 0 w.heap.size (w.heap.size + 1) (fun _ => 0) := by
  have hlt : rb < w.heap.size := (Array.getElem?_eq_some_iff.1 h).1
  obtain ⟨w0, hw0⟩ : ∃ w0, w0 = (w.setCell ⟨rb, 0, none⟩ (.map (some w.heap.size))).setCell ⟨rb, 2, none⟩ (.map (some (w.heap.size + 1))) := ⟨_, rfl⟩
  have hsz : w0.heap.size = w.heap.size := by rw [hw0]; simp [World.setCell]
  have hb : w0.heap[rb]? = some (.cells #[.map (some w.heap.size), .int .i64 0, .map (some (w.heap.size + 1))] 64 (0, 0)) := by
    have h' : w.heap[rb]? = some (.cells #[.map none, .int .i64 0, .map none] 64 (0, 0)) := h
    rw [hw0]
    simp [World.setCell, Array.getElem?_modify, h']
  rw [← hw0]
  refine Rep.start ?_ ?_ ?_ hS (hup _ (Nat.le_refl _)) (hup _ (by omega)) (by omega)
  · rw [Below.heap_alloc _ _ _ (by simp; omega), Below.heap_alloc _ _ _ (by omega)]
    exact hb
  · have := MapIs.made w0 9
    rw [hsz] at this
    exact this.of_block (Below.heap_alloc _ _ _ (by simp; omega))
  · have := MapIs.made (w0.alloc (.map #[] 0)) 9
    simp only [World.size_alloc, hsz] at this
    exact this

/-- .. of the zero value. -/
theorem of_nil {rb : Nat} {S Vb : Nat → Prop} (c : ByteArray) (w : World) (hc : c.size ≤ maxLen) (hd : ∀ k, Vb k → ¬ S k) (hup : ∀ k, w.heap.size ≤ k → S k) (hS : S rb) (h : RepNil w rb) :
    Calls Try.prog 52 #[.pointer (some ⟨rb, 0, none⟩), .string c] w fun e w' => ∃ bk bf blk, e = .returned (.map (some (blk c))) ∧ Rep w' rb S Vb [] [⟨c, 0, 0⟩] 0 0 bk bf blk ∧ Tch S w w' ∧ ∀ k, k ≠ rb → k < w.heap.size → w'.heap[k]? = w.heap[k]? := by
  have q61 : ∀ (w : World) (r : Option Nat), (binOp .eql 61 (.map r) (.map none)).run Try.prog w = .ok (.bool r.isNone) w := fun w r => run_eql_map_nil w _ _ _ r Try.underlying61
  have q62 : ∀ (w : World) (r : Option Nat), (binOp .eql 62 (.map r) (.map none)).run Try.prog w = .ok (.bool r.isNone) w := fun w r => run_eql_map_nil w _ _ _ r Try.underlying62
  have q77 : ∀ (w : World) (r : Option Nat), (binOp .eql 77 (.map r) (.map none)).run Try.prog w = .ok (.bool r.isNone) w := fun w r => run_eql_map_nil w _ _ _ r Try.underlying77
  have hmm := @run_makeMap Try.prog
  have hlt : rb < w.heap.size := (Array.getElem?_eq_some_iff.1 h).1
  have h0 : w.cell? ⟨rb, 0, none⟩ = some (.map none) := by simp [World.cell?, RepNil.eq_1 .. ▸ h]
  have h2 : w.cell? ⟨rb, 2, none⟩ = some (.map none) := by simp [World.cell?, RepNil.eq_1 .. ▸ h]
  have f0 : w.frozen? ⟨rb, 0, none⟩ = false := by simp [World.frozen?, RepNil.eq_1 .. ▸ h]
  have f2 : w.frozen? ⟨rb, 2, none⟩ = false := by simp [World.frozen?, RepNil.eq_1 .. ▸ h]
  have HN : Hid (RepNil w rb) := h
  clear h
  have HR : Hid (Rep ((((w.setCell ⟨rb, 0, none⟩ (.map (some w.heap.size))).setCell ⟨rb, 2, none⟩ (.map (some (w.heap.size + 1)))).alloc (.map #[] 0)).alloc (.map #[] 0)) rb S Vb [] [] 0 0 w.heap.size (w.heap.size + 1) (fun _ => 0)) := Rep.start2 hup hS HN.out
  obtain ⟨fk, hm, hf⟩ := HR.out.kept
  have HM := hide hm
  have HF := hide hf
  have HV : Hid ((fk (sk c)).getD (.map none) = .map none) := by unfold Hid; rw [hf c]; rfl
  have hc3 := (HR.out.alloc (.map #[] 0)).cell0
  clear hm hf
  go_enter Try.func52, Try.ntmps52
  go_wp2_with (first | (at_lookup; refine wpList_look rfl _ _ 61 rfl HM.out kl9 Try.underlying61 zero77 rfl rfl (keyS hc) _ HV.out ?_) | (at_mapUpdate; refine wpList_store rfl _ _ _ 61 rfl (HM.out.of_block (Below.heap_alloc _ _ _ HM.out.lt)) kl9 Try.underlying61 (by simp) rfl rfl (keyS hc) (val := .map (some (w.heap.size + 1 + 1))) rfl ?_; intro w1 hm1 ht1; have HM1 := hide hm1; have HT1 := hide ht1; clear hm1 ht1))
  go_ret
  have hup2 : ∀ k, ((((w.setCell ⟨rb, 0, none⟩ (.map (some w.heap.size))).setCell ⟨rb, 2, none⟩ (.map (some (w.heap.size + 1)))).alloc (.map #[] 0)).alloc (.map #[] 0)).heap.size ≤ k → S k := fun k hk => hup k (by simp [World.setCell] at hk; omega)
  have hsz : ((((w.setCell ⟨rb, 0, none⟩ (.map (some w.heap.size))).setCell ⟨rb, 2, none⟩ (.map (some (w.heap.size + 1)))).alloc (.map #[] 0)).alloc (.map #[] 0)).heap.size = w.heap.size + 1 + 1 := by simp [World.setCell]
  have hm1 := HM1.out
  rw [← hsz] at hm1
  refine ⟨_, _, _, ?_, HR.out.holdNew (c := c) hd hup2 rfl (by simp) HF.out hm1 HT1.out, ?_, fun k hk hl => ?_⟩
  · simp [World.setCell]
  · exact (((((Tch.refl S w).setCell (p := ⟨rb, 0, none⟩) hS _).setCell (p := ⟨rb, 2, none⟩) hS _).alloc (hup _ (by simp)) _).alloc (hup _ (by simp)) _ |>.alloc (hup _ (by simp; omega)) _).turned HT1.out (hup _ (Nat.le_refl _))
  · rw [turned_block HT1.out (by omega), Below.heap_alloc _ _ _ (by simp [World.setCell]; omega), Below.heap_alloc _ _ _ (by simp [World.setCell]; omega), Below.heap_alloc _ _ _ (by simp [World.setCell]; omega), Below.heap_setCell _ _ _ _ hk, Below.heap_setCell _ _ _ _ hk]

/-- Blocks of cells, the struct's own apart, stay as they were. -/
def KeepC (rb : Nat) (w w' : World) : Prop := ∀ k, k ≠ rb → (∃ o v, w.cell? ⟨k, o, none⟩ = some v) → w'.heap[k]? = w.heap[k]?
theorem KeepC.refl (rb : Nat) (w : World) : KeepC rb w w := fun _ _ _ => rfl
theorem KeepC.cell {rb : Nat} {w w' : World} (h : KeepC rb w w') {k o : Nat} {v : Value} (hk : k ≠ rb) (hc : w.cell? ⟨k, o, none⟩ = some v) : w'.cell? ⟨k, o, none⟩ = some v := (World.cell?_of_block (h k hk ⟨_, _, hc⟩)).trans hc
theorem KeepC.trans {rb : Nat} {a b c : World} (h : KeepC rb a b) (h' : KeepC rb b c) : KeepC rb a c := fun k hk ⟨o, v, hc⟩ => (h' k hk ⟨o, v, h.cell hk hc⟩).trans (h k hk ⟨o, v, hc⟩)
theorem cell_lt {w : World} {x o : Nat} {v : Value} (h : w.cell? ⟨x, o, none⟩ = some v) : x < w.heap.size := by
  rcases Nat.lt_or_ge x w.heap.size with h' | h'
  · exact h'
  · have e : w.heap[x]? = none := Array.getElem?_eq_none h'
    simp [World.cell?, e] at h
theorem KeepC.of_below {rb : Nat} {w w' : World} (h : Below w.heap.size w w') : KeepC rb w w' := fun k _ ⟨_, _, hc⟩ => h.block k (cell_lt hc)

/-- The zero value, or a state. -/
def RepX (w : World) (rb : Nat) (S Vb : Nat → Prop) (es : List Ent) (hs : List Hold) (N : Nat) : Prop :=
  (RepNil w rb ∧ S rb ∧ es = [] ∧ hs = []) ∨ ∃ bk bf blk, Rep w rb S Vb es hs (bytesE es) N bk bf blk

theorem Rep.moreN {w : World} {rb : Nat} {S Vb : Nat → Prop} {es : List Ent} {hs : List Hold} {B : Int} {N M bk bf : Nat} {blk : ByteArray → Nat} (h : Rep w rb S Vb es hs B N bk bf blk) (hm : N ≤ M) : Rep w rb S Vb es hs B M bk bf blk := by
  obtain ⟨ff, nf, a, b, c⟩ := h.flo
  exact ⟨h.str, h.kept, h.inner, ⟨ff, nf, a, Nat.le_trans b hm, c⟩, h.sR, h.sK, h.sF, h.sI, h.dKF, h.dIK, h.dIF, h.dI⟩

theorem of_any {rb : Nat} {S Vb : Nat → Prop} {es : List Ent} {hs : List Hold} {N : Nat} (c : ByteArray) (w : World) (hc : c.size ≤ maxLen) (hno : holdOf hs c = none → ∀ e ∈ es, e.c ≠ c) (hl : hs.length < 1000000)
    (hd : ∀ k, Vb k → ¬ S k) (hup : ∀ k, w.heap.size ≤ k → S k) (h : RepX w rb S Vb es hs N) :
    Calls Try.prog 52 #[.pointer (some ⟨rb, 0, none⟩), .string c] w fun e w' => ∃ bk bf blk, e = .returned (.map (some (blk c))) ∧ Rep w' rb S Vb es (holdH hs c) (bytesE es) N bk bf blk ∧ Tch S w w' ∧ KeepC rb w w' := by
  rcases h with ⟨h, hS, rfl, rfl⟩ | ⟨bk, bf, blk, h⟩
  · refine (of_nil (S := S) (Vb := Vb) c w hc hd hup hS h).mono ?_
    rintro e w' ⟨bk, bf, blk, rfl, hR, hT, hk⟩
    exact ⟨bk, bf, blk, rfl, hR.moreN (Nat.zero_le _), hT, fun k hk' ⟨_, _, hv⟩ => hk k hk' (cell_lt hv)⟩
  · cases hh : holdOf hs c with
    | some h0 =>
      refine (of_held c w hc (by rw [hh]; rfl) h).mono ?_
      rintro e w' ⟨rfl, rfl⟩
      refine ⟨bk, bf, blk, rfl, ?_, Tch.refl _ _, KeepC.refl _ _⟩
      unfold holdH
      rw [hh]
      exact h
    | none =>
      refine (of_new c w hc hh (hno hh) hl hd hup h).mono ?_
      rintro e w' ⟨rfl, hR, hT, hk⟩
      refine ⟨bk, bf, (fun x => if x = c then w.heap.size else blk x), ?_, ?_, hT, fun k _ ⟨_, _, hv⟩ => hk k ?_ (cell_lt hv)⟩
      · simp
      · unfold holdH
        rw [hh]
        exact hR
      · obtain ⟨_, hm, _⟩ := h.kept
        intro e
        subst e
        exact hm.no_cell hv

end Go.Proofs.Qxb6617896a
