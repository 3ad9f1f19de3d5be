import Derived.Test.Qxb6617896aStage
import Derived.Deep.DrawnRows
import Derived.Deep.DeepCutAuto
namespace Go.Proofs.Qxb6617896a
open Go.ChangeShapes Go.WideShapes Go.ChangeAt Go.RowKit
open Go.Maps (Keyed)
attribute [local go_sem ↓] Go.wp_at_zero Go.wp_at_succ

theorem Rep.below {w w' : World} {rb : Nat} {S Vb : Nat → Prop} {es : List Ent} {hs : List Hold} {B : Int} {N bk bf : Nat} {blk : ByteArray → Nat} (h : Rep w rb S Vb es hs B N bk bf blk) (hb : Below w.heap.size w w') : Rep w' rb S Vb es hs B N bk bf blk :=
  h.carry hb.size (fun k _ hk => hb.block k hk)
theorem MapIs.below {w w' : World} {b : Nat} {K : TypeId} {f : Lit → Option Value} {n : Nat} (h : MapIs w b K f n) (hb : Below w.heap.size w w') : MapIs w' b K f n := h.of_block (hb.block b h.lt)

theorem floorOf_holdH (hs : List Hold) (c x : ByteArray) : floorOf (holdH hs c) x = floorOf hs x := by
  unfold holdH
  cases h : holdOf hs c with
  | some _ => rfl
  | none =>
    unfold floorOf
    rw [show (if (none : Option Hold).isSome = true then hs else hs ++ [⟨c, 0, 0⟩]) = hs ++ [⟨c, 0, 0⟩] from rfl, holdOf_append h]
    by_cases e : x = c
    · subst e; rw [h]; simp
    · simp [e]
theorem held_holdH (hs : List Hold) (c : ByteArray) : (holdOf (holdH hs c) c).isSome = true := by
  unfold holdH
  cases h : holdOf hs c with
  | some _ => simp [h]
  | none => simp [holdOf_append h]

theorem FlOk.val {x : Option Value} {hs : List Hold} {c : ByteArray} (h : FlOk x (holdOf hs c)) : x.getD (.int .u64 0) = .int .u64 (floorOf hs c) := by
  unfold floorOf
  cases hx : holdOf hs c with
  | none => rw [hx] at h; rw [show x = none from h]; rfl
  | some hd =>
    rw [hx] at h
    rcases h with e | ⟨e, e0⟩
    · rw [e]; rfl
    · rw [e]; simp [e0]

/-- The floor, looked up. -/
theorem Rep.look {w W : World} {rb : Nat} {S Vb : Nat → Prop} {es : List Ent} {hs : List Hold} {B : Int} {N bk bf : Nat} {blk : ByteArray → Nat} (h : Rep w rb S Vb es hs B N bk bf blk) {c : ByteArray} (hc : c.size ≤ maxLen) (hb : Below w.heap.size w W) :
    (Instr.lookup 62 (.map (some bf)) (.string c) false).run Try.prog W = .ok (.int .u64 (floorOf hs c)) W := by
  obtain ⟨ff, nf, hm, _, hf⟩ := h.flo
  have := (hm.below hb).look kl9 Try.underlying62 zero31 (keyS hc)
  rw [(hf c).val] at this
  exact this

theorem of_rep {rb : Nat} {S Vb : Nat → Prop} {es : List Ent} {hs : List Hold} {B : Int} {N bk bf : Nat} {blk : ByteArray → Nat} (c : ByteArray) (w : World) (hc : c.size ≤ maxLen) (hno : holdOf hs c = none → ∀ e ∈ es, e.c ≠ c) (hl : hs.length < 1000000)
    (hd : ∀ k, Vb k → ¬ S k) (hup : ∀ k, w.heap.size ≤ k → S k) (h : Rep w rb S Vb es hs B N bk bf blk) :
    Calls Try.prog 52 #[.pointer (some ⟨rb, 0, none⟩), .string c] w fun e w' => ∃ blk, e = .returned (.map (some (blk c))) ∧ Rep w' rb S Vb es (holdH hs c) B N bk bf blk ∧ Tch S w w' ∧ KeepC rb w w' := by
  cases hh : holdOf hs c with
  | some h0 =>
    refine (of_held c w hc (by rw [hh]; rfl) h).mono ?_
    rintro e w' ⟨rfl, rfl⟩
    refine ⟨blk, rfl, ?_, Tch.refl _ _, KeepC.refl _ _⟩
    unfold holdH
    rw [hh]
    exact h
  | none =>
    refine (of_new c w hc hh (hno hh) hl hd hup h).mono ?_
    rintro e w' ⟨rfl, hR, hT, hk⟩
    refine ⟨(fun x => if x = c then w.heap.size else blk x), ?_, ?_, hT, fun k _ ⟨_, _, hv⟩ => hk k ?_ (cell_lt hv)⟩
    · simp
    · unfold holdH
      rw [hh]
      exact hR
    · obtain ⟨_, hm, _⟩ := h.kept
      intro e
      subst e
      exact hm.no_cell hv

theorem cell_box (w : World) (v : Value) (t : TypeId) : (w.alloc (.cells #[v] t)).drew.cell? ⟨w.heap.size, 0, none⟩ = some v := by simp
theorem cell_over {w : World} {k o : Nat} {v : Value} (h : w.cell? ⟨k, o, none⟩ = some v) (ob : Obj) : (w.alloc ob).cell? ⟨k, o, none⟩ = some v :=
  (World.cell?_of_block (Below.heap_alloc w ob k (cell_lt h))).trans h

theorem KeepC.frozen {rb : Nat} {w w' : World} (h : KeepC rb w w') {k o : Nat} {v : Value} (hk : k ≠ rb) (hc : w.cell? ⟨k, o, none⟩ = some v) (hf : w.frozen? ⟨k, o, none⟩ = false) : w'.frozen? ⟨k, o, none⟩ = false := by
  have e := h k hk ⟨_, _, hc⟩
  simp only [World.frozen?] at hf ⊢
  rw [e]
  exact hf

theorem Rep.carryX {w w' : World} {rb : Nat} {S Vb : Nat → Prop} {es : List Ent} {hs : List Hold} {B : Int} {N bk bf : Nat} {blk : ByteArray → Nat} (h : Rep w rb S Vb es hs B N bk bf blk) (hz : w.heap.size ≤ w'.heap.size) (hk : ∀ k, (k = rb ∨ (∃ K f n, MapIs w k K f n) ∨ Vb k) → k < w.heap.size → w'.heap[k]? = w.heap[k]?) : Rep w' rb S Vb es hs B N bk bf blk := by
  obtain ⟨fk, hm, hf⟩ := h.kept
  obtain ⟨ff, nf, hm2, hn, hf2⟩ := h.flo
  exact ⟨(hk rb (.inl rfl) h.ltR).trans h.str, ⟨fk, hm.of_block (hk bk (.inr (.inl ⟨_, _, _, hm⟩)) hm.lt), hf⟩, fun c hc => (h.inner c hc).carry hz (hk _ (.inr (.inl (let ⟨_, hmi, _⟩ := h.inner c hc; ⟨_, _, _, hmi⟩))) (h.ltI hc)) (fun k hv hl => hk k (.inr (.inr hv)) hl),
    ⟨ff, nf, hm2.of_block (hk bf (.inr (.inl ⟨_, _, _, hm2⟩)) hm2.lt), hn, hf2⟩, h.sR, h.sK, h.sF, h.sI, h.dKF, h.dIK, h.dIF, h.dI⟩

/-- A variable beside it is written. -/
theorem Rep.setBox {w : World} {rb : Nat} {S Vb : Nat → Prop} {es : List Ent} {hs : List Hold} {B : Int} {N bk bf : Nat} {blk : ByteArray → Nat} (h : Rep w rb S Vb es hs B N bk bf blk) {k o : Nat} {v : Value} (hc : w.cell? ⟨k, o, none⟩ = some v) (hne : k ≠ rb) (hv : ¬ Vb k) (u : Value) : Rep (w.setCell ⟨k, o, none⟩ u) rb S Vb es hs B N bk bf blk := by
  refine h.carryX (by simp [World.setCell]) (fun x hx _ => Below.heap_setCell _ _ _ _ ?_)
  intro e
  subst e
  rcases hx with e | ⟨K, f, n, hm⟩ | hx
  · exact hne e
  · exact hm.no_cell hc
  · exact hv hx

/-- Behind 'kept, from := rs.of(coordinator), rs.floor[coordinator]'. -/
def AtD (w wc : World) (rb : Nat) (S Vb : Nat → Prop) (es : List Ent) (hs : List Hold) (N : Nat) (c : ByteArray) (x1 x2 : Nat) : Prop :=
  ∃ bk bf blk, Rep wc rb S Vb es (holdH hs c) (bytesE es) N bk bf blk ∧ wc.cell? ⟨x1, 0, none⟩ = some (.pointer (some ⟨rb, 0, none⟩)) ∧ wc.cell? ⟨x2, 0, none⟩ = some (.map (some (blk c))) ∧ Tch S w wc ∧ KeepC rb w wc ∧ rb < x1 ∧ rb < x2

theorem cell_set_same {w : World} {k o : Nat} {v : Value} (h : w.cell? ⟨k, o, none⟩ = some v) (u : Value) : (w.setCell ⟨k, o, none⟩ u).cell? ⟨k, o, none⟩ = some u := World.cell?_setCell_same w _ _ h

theorem AtD.end1 {w w1 : World} {rb : Nat} {S Vb : Nat → Prop} {es : List Ent} {hs : List Hold} {N : Nat} {c : ByteArray} {bk bf : Nat} {blk : ByteArray → Nat} {W : World} (hW : W.heap.size = w.heap.size + 1) (hWb : Below w.heap.size w W) (hbox : W.cell? ⟨w.heap.size, 0, none⟩ = some (.pointer (some ⟨rb, 0, none⟩))) (hrb : rb < w.heap.size) (hup : ∀ k, w.heap.size ≤ k → S k)
    (hR : Rep w1 rb S Vb es (holdH hs c) (bytesE es) N bk bf blk) (hT : Tch S W w1) (hK : KeepC rb W w1) : AtD w (w1.alloc (.cells #[.map (some (blk c))] 77)) rb S Vb es hs N c w.heap.size w1.heap.size := by
  have hs1 := hT.size
  have hb := hK.cell (by omega) hbox
  exact ⟨bk, bf, blk, hR.alloc _, cell_over hb _, by simp, ((Tch.of_below hWb hup).trans hT).alloc (hup _ (by omega)) _, (KeepC.of_below hWb).trans (hK.trans (KeepC.of_below ⟨rfl, rfl, rfl, by simp, fun k hk => Below.heap_alloc _ _ _ hk⟩)), hrb, by omega⟩

theorem AtD.end2 {w w1 : World} {rb : Nat} {S Vb : Nat → Prop} {es : List Ent} {hs : List Hold} {N : Nat} {c : ByteArray} {bk bf : Nat} {blk : ByteArray → Nat} {W : World} (hWb : Below w.heap.size w W) (hbox : W.cell? ⟨w.heap.size, 0, none⟩ = some (.pointer (some ⟨rb, 0, none⟩))) (hq : W.cell? ⟨w.heap.size + 1, 0, none⟩ = some (.map none)) (hrb : rb < w.heap.size) (hd : ∀ k, Vb k → ¬ S k) (hup : ∀ k, w.heap.size ≤ k → S k)
    (hR : Rep w1 rb S Vb es (holdH hs c) (bytesE es) N bk bf blk) (hT : Tch S W w1) (hK : KeepC rb W w1) : AtD w (w1.setCell ⟨w.heap.size + 1, 0, none⟩ (.map (some (blk c)))) rb S Vb es hs N c w.heap.size (w.heap.size + 1) := by
  have hs1 := hT.size
  have hb := hK.cell (by omega) hbox
  have hq1 := hK.cell (by omega) hq
  have hlt := cell_lt hq1
  refine ⟨bk, bf, blk, hR.setBox hq1 (by omega) (fun h => hd _ h (hup _ (by omega))) _, (World.cell?_of_block (Below.heap_setCell w1 ⟨w.heap.size + 1, 0, none⟩ _ w.heap.size (by simp))).trans hb, ?_, ((Tch.of_below hWb hup).trans hT).setCell (hup _ (by simp)) _, ?_, hrb, by omega⟩
  · exact cell_set_same hq1 _
  intro k hk hc
  have hl : k < w.heap.size := by obtain ⟨_, _, h⟩ := hc; exact cell_lt h
  exact (Below.heap_setCell w1 ⟨w.heap.size + 1, 0, none⟩ _ k (by simp; omega)).trans (((KeepC.of_below hWb).trans hK) k hk hc)

theorem nil_look (c : ByteArray) (w : World) : (Instr.lookup 62 (.map none) (.string c) false).run Try.prog w = .ok (.int .u64 0) w := by kernel_rfl

def dropH (hs : List Hold) (c : ByteArray) (low : Int) : List Hold := if floorOf hs c < low then setFl (holdH hs c) c low else holdH hs c

/-- In dropBelow's loops: the state es', and the two boxes. -/
def InD (w wr : World) (rb : Nat) (S Vb : Nat → Prop) (es' : List Ent) (hs' : List Hold) (N bk bf : Nat) (blk : ByteArray → Nat) (c : ByteArray) (x1 x2 : Nat) : Prop :=
  Rep wr rb S Vb es' hs' (bytesE es') N bk bf blk ∧ wr.cell? ⟨x1, 0, none⟩ = some (.pointer (some ⟨rb, 0, none⟩)) ∧ wr.cell? ⟨x2, 0, none⟩ = some (.map (some (blk c))) ∧ Tch S w wr ∧ KeepC rb w wr

/-- In the second loop. -/
def InR (w wr : World) (rb : Nat) (S Vb : Nat → Prop) (es : List Ent) (low : Int) (hs' : List Hold) (N bk bf : Nat) (blk : ByteArray → Nat) (c : ByteArray) (x1 x2 r : Nat) : Prop :=
  ∃ es' left f cn, InD w wr rb S Vb es' hs' N bk bf blk c x1 x2 ∧ RangeIs wr (blk c) 31 r f (cnt es' c) left cn ∧ Left es es' c low left ∧ ∀ kl, left kl = true → (f kl).isSome

def RetD (w : World) (rb : Nat) (S Vb : Nat → Prop) (es : List Ent) (hs : List Hold) (N : Nat) (e : Ending) (w' : World) : Prop :=
  e = .returned (.tuple #[]) ∧ ∃ bk bf blk, Rep w' rb S Vb es hs (bytesE es) N bk bf blk ∧ Tch S w w' ∧ KeepC rb w w'

theorem KeepC.turned {rb b : Nat} {w w' : World} {K : TypeId} {f : Lit → Option Value} {n : Nat} (hm : MapIs w b K f n) (ht : w.mapTurned w' b) : KeepC rb w w' := fun k _ ⟨_, _, hv⟩ => turned_block ht (fun e => by subst e; exact hm.no_cell hv)

section
variable {w wr w1 : World} {rb : Nat} {S Vb : Nat → Prop} {es' : List Ent} {hs' : List Hold} {N bk bf : Nat} {blk : ByteArray → Nat} {c : ByteArray} {x1 x2 : Nat}
theorem InD.alloc (h : InD w wr rb S Vb es' hs' N bk bf blk c x1 x2) (hup : ∀ k, w.heap.size ≤ k → S k) (o : Obj) : InD w (wr.alloc o) rb S Vb es' hs' N bk bf blk c x1 x2 := by
  obtain ⟨hR, h1, h2, hT, hK⟩ := h
  exact ⟨hR.alloc _, cell_over h1 _, cell_over h2 _, hT.alloc (hup _ hT.size) _, hK.trans (KeepC.of_below ⟨rfl, rfl, rfl, by simp, fun k hk => Below.heap_alloc _ _ _ hk⟩)⟩

theorem InD.grown (h : InD w wr rb S Vb es' hs' N bk bf blk c x1 x2) (hup : ∀ k, w.heap.size ≤ k → S k) (hd : ∀ k, Vb k → ¬ S k) {r : Nat} (hg : wr.grownBy w1 (some r)) (hr : rb < r) (hk : bk < r) (hf : bf < r) (hi : ∀ c, (holdOf hs' c).isSome → blk c < r) (hw : w.heap.size ≤ r) (hx1 : x1 < r) (hx2 : x2 < r) : InD w w1 rb S Vb es' hs' N bk bf blk c x1 x2 := by
  obtain ⟨hR, h1, h2, hT, hK⟩ := h
  have hS := hup r hw
  refine ⟨hR.grown hg hr hk hf hi (fun h => hd r h hS), (World.cell?_of_block (hg.block x1 (cell_lt h1) ?_)).trans h1, (World.cell?_of_block (hg.block x2 (cell_lt h2) ?_)).trans h2, hT.grown hg (fun k h => hup k (Nat.le_trans hT.size h)) hS, fun k hk hc => ?_⟩
  · intro e; have := Option.some.inj e; omega
  · intro e; have := Option.some.inj e; omega
  · have hl : k < w.heap.size := by obtain ⟨_, _, h⟩ := hc; exact cell_lt h
    exact (hg.block k (Nat.lt_of_lt_of_le hl hT.size) (fun e => by have := Option.some.inj e; omega)).trans (hK k hk hc)

theorem InD.del (h : InD w wr rb S Vb es' hs' N bk bf blk c x1 x2) (hn : NodE es') (hh : (holdOf hs' c).isSome = true) (hr1 : rb < x1) (hr2 : rb < x2) {s : Int} {e : Ent} (he : findE es' c s = some e) (hR1 : Rep w1 rb S Vb (delE es' c s) hs' (bytesE es' - (e.val.length : Int)) N bk bf blk) (hT1 : Tch S wr w1) (hk1 : ∀ k, k < wr.heap.size → k ≠ rb → k ≠ blk c → w1.heap[k]? = wr.heap[k]?) :
    InD w w1 rb S Vb (delE es' c s) hs' N bk bf blk c x1 x2 := by
  obtain ⟨hR, h1, h2, hT, hK⟩ := h
  have hb : bytesE es' - (e.val.length : Int) = bytesE (delE es' c s) := by have := (delE_one hn he).2; omega
  have hK1 : KeepC rb wr w1 := fun k hk ⟨_, _, hv⟩ => hk1 k (cell_lt hv) hk (fun e => by
    obtain ⟨_, hm, _⟩ := hR.inner c hh
    subst e
    exact hm.no_cell hv)
  exact ⟨hb ▸ hR1, hK1.cell (by omega) h1, hK1.cell (by omega) h2, hT.trans hT1, hK.trans hK1⟩
end

set_option maxHeartbeats 4000000 in
set_option maxRecDepth 100000 in
/-- (*Replies).dropBelow. -/
theorem dropBelow_any {rb : Nat} {S Vb : Nat → Prop} {es : List Ent} {hs : List Hold} {N : Nat} (c : ByteArray) (low : Int) (w : World) (hc : c.size ≤ maxLen) (hl0 : 0 ≤ low) (hl1 : low ≤ 18446744073709551615)
    (hno : holdOf hs c = none → ∀ e ∈ es, e.c ≠ c) (hl : hs.length < 1000000) (hd : ∀ k, Vb k → ¬ S k) (hup : ∀ k, w.heap.size ≤ k → S k) (hnod : NodE es)
    (hf0 : 0 ≤ floorOf hs c) (hf1 : floorOf hs c ≤ 18446744073709551615) (hfl : ∀ e ∈ es, e.c = c → floorOf hs c ≤ e.seq) (hby : bytesE es ≤ 1048576) (hN : N < 1000000) (hlen : es.length < 1000000)
    (h : RepX w rb S Vb es hs N) :
    Calls Try.prog 40 #[.pointer (some ⟨rb, 0, none⟩), .string c, .int .u64 low] w fun e w' => RetD w rb S Vb (dropE es c low) (dropH hs c low) (N + 1) e w' := by
  have HX := hide h
  have HD := hide hd
  have HU := hide hup
  clear h hd hup
  go_enter Try.func40, Try.ntmps40
  go_upto_region 2 with fail
  go_cut [3, 6, 7] (fun p q v wc => ∃ x1 x2, p = .pointer (some ⟨x1, 0, none⟩) ∧ q = .pointer (some ⟨x2, 0, none⟩) ∧ v = .int .u64 (floorOf hs c) ∧ Hid (AtD w wc rb S Vb es hs N c x1 x2))
  case first =>
    rcases HX.out with ⟨h, hS, rfl, rfl⟩ | ⟨bk, bf, blk, h⟩
    · have hlt : rb < w.heap.size := (Array.getElem?_eq_some_iff.1 h).1
      have h2 : w.cell? ⟨rb, 2, none⟩ = some (.map none) := by simp [World.cell?, RepNil.eq_1 .. ▸ h]
      have hrne : ¬ w.heap.size = rb := by omega
      have hrne2 : ¬ w.heap.size + 1 = rb := by omega
      have HN := hide h
      have hnl := nil_look c
      have hf0 : floorOf [] c = 0 := rfl
      clear h
      go_wp2_with fail
      have hbox0 : (w.alloc (Obj.cells #[Value.pointer (some ⟨rb, 0, none⟩)] 40)).drew.cell? ⟨w.heap.size, 0, none⟩ = some (.pointer (some ⟨rb, 0, none⟩)) := cell_box _ _ _
      have hbox1 : ∀ o, ((w.alloc (Obj.cells #[Value.pointer (some ⟨rb, 0, none⟩)] 40)).alloc o).drew.cell? ⟨w.heap.size, 0, none⟩ = some (.pointer (some ⟨rb, 0, none⟩)) := fun o => cell_over (cell_box _ _ _) _
      have hbox2 : ∀ {w1 : World}, w1.cell? ⟨w.heap.size, 0, none⟩ = some (.pointer (some ⟨rb, 0, none⟩)) → ∀ o, (w1.alloc o).cell? ⟨w.heap.size, 0, none⟩ = some (.pointer (some ⟨rb, 0, none⟩)) := fun h o => cell_over h o
      have hnv : ¬ Vb (w.heap.size + 1) := fun h => HD.out _ h (HU.out _ (by omega))
      have hbox3 : ((w.alloc (Obj.cells #[Value.pointer (some ⟨rb, 0, none⟩)] 40)).alloc (Obj.cells #[Value.map none] 77)).drew.cell? ⟨w.heap.size + 1, 0, none⟩ = some (.map none) := by
        simp
      have hbox4 : ((w.alloc (Obj.cells #[Value.pointer (some ⟨rb, 0, none⟩)] 40)).alloc (Obj.cells #[Value.map none] 77)).drew.frozen? ⟨w.heap.size + 1, 0, none⟩ = false := by simp
      go_region_with
        (first | (go_at_call 52; refine (of_any (N := N) c _ hc hno hl HD.out (fun k hk => HU.out k (by simp at hk; omega)) (.inl ⟨(Below.block (B := w.heap.size) (w := w) (by go_grown) rb hlt).trans HN.out, hS, rfl, rfl⟩)).mono ?_; rintro e w1 ⟨bk1, bf1, blk1, rfl, hR1, hT1, hK1⟩; have hlk0 := hR1.look hc (Below.refl _ _); have hlk1 : ∀ o, (Instr.lookup 62 (.map (some bf1)) (.string c) false).run Try.prog (w1.alloc o) = .ok (.int .u64 (floorOf [] c)) (w1.alloc o) := (fun o => (floorOf_holdH [] c c) ▸ hR1.look hc (by go_grown)); rw [floorOf_holdH] at hlk0; have hc2 := hR1.cell2; have hrl := hR1.ltR; first | (have hp1 := hK1.cell hrne hbox0; have hp2 := cell_lt hp1) | (have hp1 := hK1.cell hrne (hbox1 _); have hp2 := cell_lt hp1); first | (have hq1 := hK1.cell (k := w.heap.size + 1) (o := 0) (by omega) hbox3; have hq2 := hK1.frozen (k := w.heap.size + 1) (o := 0) (by omega) hbox3 hbox4; have hq3 := cell_lt hq1; have hlk2 := (hR1.setBox hq1 (by omega) hnv (.map (some (blk1 c)))).look hc (Below.refl _ _); rw [floorOf_holdH] at hlk2) | skip))
      all_goals (go_wp2; go_meet; case rel => first | exact ⟨_, _, rfl, rfl, rfl, AtD.end1 (by simp) (by go_grown) hbox0 hlt HU.out hR1 hT1 hK1⟩ | exact ⟨_, _, rfl, rfl, rfl, AtD.end2 (by go_grown) (hbox1 _) hbox3 hlt HD.out HU.out hR1 hT1 hK1⟩)
    · have h2 := h.cell2
      have hlt := h.ltR
      have hrne : ¬ w.heap.size = rb := by omega
      have HR := hide h
      clear h
      go_wp2_with fail
      have hbox0 : (w.alloc (Obj.cells #[Value.pointer (some ⟨rb, 0, none⟩)] 40)).drew.cell? ⟨w.heap.size, 0, none⟩ = some (.pointer (some ⟨rb, 0, none⟩)) := cell_box _ _ _
      have hbox1 : ∀ o, ((w.alloc (Obj.cells #[Value.pointer (some ⟨rb, 0, none⟩)] 40)).alloc o).drew.cell? ⟨w.heap.size, 0, none⟩ = some (.pointer (some ⟨rb, 0, none⟩)) := fun o => cell_over (cell_box _ _ _) _
      have hbox2 : ∀ {w1 : World}, w1.cell? ⟨w.heap.size, 0, none⟩ = some (.pointer (some ⟨rb, 0, none⟩)) → ∀ o, (w1.alloc o).cell? ⟨w.heap.size, 0, none⟩ = some (.pointer (some ⟨rb, 0, none⟩)) := fun h o => cell_over h o
      have hbox3 : ((w.alloc (Obj.cells #[Value.pointer (some ⟨rb, 0, none⟩)] 40)).alloc (Obj.cells #[Value.map none] 77)).drew.cell? ⟨w.heap.size + 1, 0, none⟩ = some (.map none) := by
        simp
      have hbox4 : ((w.alloc (Obj.cells #[Value.pointer (some ⟨rb, 0, none⟩)] 40)).alloc (Obj.cells #[Value.map none] 77)).drew.frozen? ⟨w.heap.size + 1, 0, none⟩ = false := by simp
      have hnv : ¬ Vb (w.heap.size + 1) := fun h => HD.out _ h (HU.out _ (by omega))
      go_region_held3 (fun w' => w'.cell? ⟨w.heap.size, 0, none⟩ = some (.pointer (some ⟨rb, 0, none⟩)) ∧ w'.cell? ⟨rb, 2, none⟩ = some (.map (some bf)) ∧ (Instr.lookup 62 (.map (some bf)) (.string c) false).run Try.prog w' = .ok (.int .u64 (floorOf hs c)) w')
        (first
          | (refine ⟨hbox0, (HR.out.below ?_).cell2, HR.out.look hc ?_⟩; (go_grown; done); (go_grown; done))
          | (refine ⟨hbox1 _, (HR.out.below ?_).cell2, HR.out.look hc ?_⟩; (go_grown; done); (go_grown; done))
          | (refine ⟨hK1.cell hrne hbox0, (hR1.below ?_).cell2, (floorOf_holdH hs c c) ▸ hR1.look hc ?_⟩; (go_grown; done); (go_grown; done))
          | (refine ⟨hK1.cell hrne (hbox1 _), (hR1.below ?_).cell2, (floorOf_holdH hs c c) ▸ hR1.look hc ?_⟩; (go_grown; done); (go_grown; done))
          | (have hR2 := hR1.setBox hq1 (by omega) hnv (.map (some (blk1 c))); refine ⟨?_, hR2.cell2, (floorOf_holdH hs c c) ▸ hR2.look hc (Below.refl _ _)⟩; exact (World.cell?_of_block (Below.heap_setCell w1 ⟨w.heap.size + 1, 0, none⟩ _ w.heap.size (by simp))).trans (hK1.cell hrne (hbox1 _)))
          | (refine ⟨hbox2 (hK1.cell hrne hbox0) _, (hR1.below ?_).cell2, (floorOf_holdH hs c c) ▸ hR1.look hc ?_⟩; (go_grown; done); (go_grown; done)))
        (first | (go_at_call 52; refine (of_rep c _ hc hno hl HD.out (fun k hk => HU.out k (by simp at hk; omega)) (HR.out.below (by go_grown))).mono ?_; rintro e w1 ⟨blk1, rfl, hR1, hT1, hK1⟩; first | (have hq1 := hK1.cell (k := w.heap.size + 1) (o := 0) (by omega) hbox3; have hq2 := hK1.frozen (k := w.heap.size + 1) (o := 0) (by omega) hbox3 hbox4; have hq3 := cell_lt hq1) | skip))
      all_goals (go_wp2; go_meet; case rel => first | exact ⟨_, _, rfl, rfl, rfl, AtD.end1 (by simp) (by go_grown) hbox0 hlt HU.out hR1 hT1 hK1⟩ | exact ⟨_, _, rfl, rfl, rfl, AtD.end2 (by go_grown) (hbox1 _) hbox3 hlt HD.out HU.out hR1 hT1 hK1⟩)
  case rest =>
    obtain ⟨wo, rfl⟩ : ∃ wo : World, wo = wc := ⟨_, rfl⟩
    obtain ⟨x1, x2, rfl, rfl, rfl, HA⟩ := hcut
    obtain ⟨bk, bf, blk, hR, hb1, hb2, hT, hK, hr1, hr2⟩ := HA.out
    have HL := hide hfl
    have HO := hide hno
    have HND := hide hnod
    have HT := hide hT
    have HK := hide hK
    have HR := hide hR
    have h2 := hR.cell2
    have hx1l := cell_lt hb1
    have hx2l := cell_lt hb2
    clear hfl hno hnod hT hK hR HA HX
    by_cases t1 : low ≤ floorOf hs c
    · go_wp2
      go_end0
      refine ⟨rfl, bk, bf, blk, ?_, HT.out, HK.out⟩
      rw [dropE_low (fun e he hx => Int.le_trans t1 (HL.out e he hx)), show dropH hs c low = holdH hs c from if_neg (by omega)]
      exact HR.out.moreN (Nat.le_succ _)
    have hheld := held_holdH hs c
    obtain ⟨ff, nf, hmf, hnf, hff⟩ := HR.out.flo
    have HM := hide hmf
    have HFF := hide hff
    clear hmf hff
    have hup0 : ∀ k, wo.heap.size ≤ k → S k := fun k hk => HU.out k (Nat.le_trans HT.out.size hk)
    by_cases t2 : low - floorOf hs c ≤ (cnt es c : Int)
    all_goals have hcl := cnt_le_length es c
    · go_wp2_with (first | (at_mapUpdate; refine wpList_store rfl _ _ _ 62 rfl HM.out kl9 Try.underlying62 (by omega) rfl rfl (keyS hc) (val := .int .u64 low) rfl ?_; intro w2 hm2 ht2; have HR2 := hide (HR.out.setFloor HD.out hheld HFF.out hnf hm2 ht2); have HT2 := hide ht2; have hk2 := KeepC.turned (rb := rb) HM.out ht2; have hc1 := hk2.cell (by omega) hb1; have hc2 := hk2.cell (by omega) hb2; have HK2 := hide hk2; clear hm2 ht2 hk2) | (at_len; obtain ⟨fi, hmi, hfi⟩ := HR2.out.inner c (by rw [held_setFl]; exact hheld); refine wpList_len rfl _ 77 rfl hmi Try.underlying77 rfl ?_; have HMI := hide hmi; have HFI := hide hfi; clear hmi hfi))
      have hIn : InD w w2 rb S Vb (dropE es c (floorOf hs c)) (setFl (holdH hs c) c low) (N + 1) bk bf blk c x1 x2 := by
        rw [dropE_low HL.out]
        exact ⟨HR2.out, hc1, hc2, HT.out.turned HT2.out HR.out.sF, HK.out.trans HK2.out⟩
      have HIn := hide hIn
      clear hIn hc1 hc2 HMI HFI
      go_loopw [9] (fun i wr => ∃ s : Int, floorOf hs c ≤ s ∧ s ≤ low ∧ i = .int .u64 s ∧ Hid (InD w wr rb S Vb (dropE es c s) (setFl (holdH hs c) c low) (N + 1) bk bf blk c x1 x2)) (fun i _ => (low - intOf i).toNat)
      case atStart => exact ⟨_, Int.le_refl _, by omega, rfl, HIn⟩
      case round =>
        obtain ⟨s, hs1, hs2, rfl, HS⟩ := hrel
        obtain ⟨hR, ha1, ha2, hT, hK⟩ := HS.out
        have hheld2 : (holdOf (setFl (holdH hs c) c low) c).isSome = true := by rw [held_setFl]; exact hheld
        obtain ⟨fi, hmi, hfi⟩ := hR.inner c hheld2
        have hfs := hfi s
        have HR3 := hide hR
        have HMI := hide hmi
        have HTr := hide hT
        have HKr := hide hK
        clear hR hmi hfi hT hK
        by_cases hlt : s < low
        · cases hfe : findE (dropE es c s) c s with
          | none =>
            have HV1 : Hid ((fi (ik s)).getD (.agg #[.int .u64 0, .slice none 0 0]) = .agg #[.int .u64 0, .slice none 0 0]) := by unfold Hid; rw [hfs.1 hfe]; rfl
            have HV2 : Hid ((fi (ik s)).isSome = false) := by unfold Hid; rw [hfs.1 hfe]; rfl
            clear hfs
            go_wp2_with (at_lookup; refine wpList_look_ok rfl _ _ 77 rfl HMI.out kl31 Try.underlying77 zero47 rfl rfl (keyI (by omega) (by omega)) _ _ HV1.out HV2.out ?_)
            go_roundw
            case rel =>
              refine ⟨s + 1, by omega, by omega, rfl, ?_⟩
              rw [dropE_succ, delE_none hfe]
              exact hide (HS.out.alloc HU.out _)
            case measure => simp [intOf]; omega
          | some e =>
            obtain ⟨x, hx, a, cp, rfl, hsl⟩ := hfs.2 e hfe
            have HV1 : Hid ((fi (ik s)).getD (.agg #[.int .u64 0, .slice none 0 0]) = .agg #[.int .u64 e.idx, .slice a e.val.length cp]) := by unfold Hid; rw [hx]; rfl
            have HV2 : Hid ((fi (ik s)).isSome = true) := by unfold Hid; rw [hx]; rfl
            clear hfs hx hsl
            go_wp2_with (at_lookup; refine wpList_look_ok rfl _ _ 77 rfl HMI.out kl31 Try.underlying77 zero47 rfl rfl (keyI (by omega) (by omega)) _ _ HV1.out HV2.out ?_)
            have hnd : NodE (dropE es c s) := HND.out.filter _
            have hmem := (findE_some hfe).1
            have hle := len_le_bytesE hmem
            have hb0 := bytesE_nonneg (dropE es c s)
            have hb1 : bytesE (dropE es c s) ≤ bytesE es := bytesE_filter_le _ _
            refine (drop1_plain c s e.idx a e.val.length cp x1 x2 _ (by omega) (by omega) ⟨by omega, by omega⟩ (by omega) hheld2 HD.out (fun k hk => HU.out k (Nat.le_trans HTr.out.size (by simp at hk; omega))) hnd (HR3.out.alloc _) (cell_over ha1 _) (cell_over ha2 _)).mono ?_
            rintro e' w1 ⟨rfl, hR1, hT1, hk1⟩
            have HI1 := hide ((HS.out.alloc HU.out _).del hnd hheld2 hr1 hr2 hfe hR1 hT1 hk1)
            clear hR1 hT1 hk1 ha1 ha2
            go_wp2
            go_roundw
            case rel =>
              refine ⟨s + 1, by omega, by omega, rfl, ?_⟩
              rw [dropE_succ]
              exact HI1
            case measure => simp [intOf]; omega
        · obtain rfl : s = low := by omega
          go_wp2
          go_end0
          exact ⟨rfl, bk, bf, blk, (show dropH hs c s = setFl (holdH hs c) c s from if_pos (by omega)) ▸ HR3.out, HTr.out, HKr.out⟩
    · go_wp2_with (first | (at_mapUpdate; refine wpList_store rfl _ _ _ 62 rfl HM.out kl9 Try.underlying62 (by omega) rfl rfl (keyS hc) (val := .int .u64 low) rfl ?_; intro w2 hm2 ht2; have HR2 := hide (HR.out.setFloor HD.out hheld HFF.out hnf hm2 ht2); have HT2 := hide ht2; have hk2 := KeepC.turned (rb := rb) HM.out ht2; have hc1 := hk2.cell (by omega) hb1; have hc2 := hk2.cell (by omega) hb2; have HK2 := hide hk2; clear hm2 ht2 hk2) | (at_len; obtain ⟨fi, hmi, hfi⟩ := HR2.out.inner c (by rw [held_setFl]; exact hheld); refine wpList_len rfl _ 77 rfl hmi Try.underlying77 rfl ?_; have HMI := hide hmi; have HFI := hide hfi; clear hmi hfi) | (at_range; refine wpList_rangeIs rfl _ 77 rfl HMI.out kl31 Try.underlying77 rfl ?_; intro w3 hr3 hg3 hz3; have HG3 := hide hr3; have HB3 := hide hg3; clear hr3 hg3))
      have hIn : InD w w3 rb S Vb es (setFl (holdH hs c) c low) (N + 1) bk bf blk c x1 x2 := by
        have hb : Below w2.heap.size w2 w3 := ⟨HB3.out.os, HB3.out.tape, HB3.out.output, HB3.out.size, fun k hk => HB3.out.block k hk (by simp)⟩
        exact ⟨HR2.out.below hb, (KeepC.of_below (rb := rb) hb).cell (by omega) hc1, (KeepC.of_below (rb := rb) hb).cell (by omega) hc2, (HT.out.turned HT2.out HR.out.sF).trans (Tch.of_below hb (fun k hk => hup0 k (Nat.le_trans HT2.out.grown.size hk))), (HK.out.trans HK2.out).trans (KeepC.of_below hb)⟩
      have HIn := hide hIn
      have HInR : Hid (InR w w3 rb S Vb es low (setFl (holdH hs c) c low) (N + 1) bk bf blk c x1 x2 w2.heap.size) := by
        refine ⟨es, _, fi, _, HIn.out, HG3.out, ⟨fun _ => true, (List.filter_eq_self.2 (fun _ _ => rfl)).symm, fun e he => (by cases he), fun e he h1 h2 => ?_⟩, fun _ h => h⟩
        have hfe := findE_of_mem HND.out he
        rw [h1] at hfe
        obtain ⟨x, hx, _⟩ := (HFI.out e.seq).2 e hfe
        simp only [hx, Option.isSome_some]
      have hheld2 : (holdOf (setFl (holdH hs c) c low) c).isSome = true := by rw [held_setFl]; exact hheld
      have hRlt := HR2.out.ltR
      have hKlt := HR2.out.ltK
      have hFlt := HR2.out.ltF
      have hIlt : Hid (∀ x, (holdOf (setFl (holdH hs c) c low) x).isSome → blk x < w2.heap.size) := fun x hx => HR2.out.ltI hx
      have hx1l2 := cell_lt hc1
      have hx2l2 := cell_lt hc2
      have hwl : w.heap.size ≤ w2.heap.size := Nat.le_trans HT.out.size HT2.out.grown.size
      have hnbr : w2.heap.size ≠ blk c := by have := hIlt.out c hheld2; omega
      clear hIn HIn HG3 HB3 HMI HFI hc1 hc2 hb1 hb2 h2
      go_loopw [12] (fun _ wr => Hid (InR w wr rb S Vb es low (setFl (holdH hs c) c low) (N + 1) bk bf blk c x1 x2 w2.heap.size)) (fun _ wr => wr.rangeLeft (blk c) w2.heap.size)
      case atStart => exact HInR
      case round =>
        obtain ⟨es', left, f, cn, hI, hG, hLf, hlf⟩ := hrel.out
        have HI := hide hI
        have HG := hide hG
        have HLf := hide hLf
        have Hlf := hide hlf
        obtain ⟨fi', hmi, hfi⟩ := hI.1.inner c hheld2
        have hun := (hG.owns.unique hmi).2
        have HINV : Hid (∀ x kl v, keyOf Try.prog 31 (mkU x) = some kl → f kl = some v → ∃ y, v = mkKept y) := by
          intro x kl v hkey hf
          obtain ⟨x', _, rfl, _⟩ := Maps.keyOf_int_inv Try.underlying31 hkey
          rw [hun] at hf
          cases hfe : findE es' c x' with
          | none => rw [show fi' (Lit.int IntKind.u64 x') = none from (hfi x').1 hfe] at hf; cases hf
          | some e =>
            obtain ⟨z, hz, a, cp, rfl, _⟩ := (hfi x').2 e hfe
            rw [show fi' (Lit.int IntKind.u64 x') = _ from hz] at hf
            cases hf
            exact ⟨(e.idx, a, e.val.length, cp), rfl⟩
        have HFI := hide hfi
        have HUN := hide hun
        have hcn := hG.left_eq
        clear hI hG hLf hlf hmi hfi hun hrel
        go_wp2_with (at_next; refine wpList_nextIs rfl _ rfl kl31 mkU mkKept (fun key kl hkey => by obtain ⟨x, rfl, _⟩ := Maps.keyOf_int_inv Try.underlying31 hkey; exact ⟨x, rfl⟩) HINV.out Hlf.out rfl HG.out ?_ ?_)
        · intro _ hall
          have hfin := HLf.out.done hall
          subst hfin
          go_wp2
          go_end0
          obtain ⟨hR, _, _, hT, hK⟩ := HI.out
          exact ⟨rfl, bk, bf, blk, (show dropH hs c low = setFl (holdH hs c) c low from if_pos (by omega)) ▸ hR, hT, hK⟩
        · intro x i a n cp kl w' cn' hkey hlk hf hr' hlt' hg hz hen
          obtain ⟨x', hx', rfl, hwf⟩ := Maps.keyOf_int_inv Try.underlying31 hkey
          obtain rfl : x = x' := by simpa [mkU] using hx'
          have hxr : 0 ≤ x ∧ x ≤ 18446744073709551615 := by
            simp [Lit.wf, IntKind.min, IntKind.max, IntKind.bits, IntKind.signed] at hwf
            omega
          obtain ⟨e, hfe, he1, he2⟩ : ∃ e, findE es' c x = some e ∧ e.idx = i ∧ e.val.length = n := by
            rw [HUN.out] at hf
            cases hfe : findE es' c x with
            | none => rw [show fi' (Lit.int IntKind.u64 x) = none from (HFI.out x).1 hfe] at hf; cases hf
            | some e =>
              obtain ⟨z, hz, a', cp', rfl, _⟩ := (HFI.out x).2 e hfe
              rw [show fi' (Lit.int IntKind.u64 x) = _ from hz] at hf
              simp [mkKept] at hf
              exact ⟨e, rfl, hf.1, hf.2.2.1⟩
          subst he1 he2
          have HI2 := hide (HI.out.grown HU.out HD.out hg hRlt hKlt hFlt hIlt.out hwl hx1l2 hx2l2)
          have HR' := hide hr'
          have hnd : NodE es' := by obtain ⟨p, rfl, _⟩ := HLf.out; exact HND.out.filter _
          have hmem := (findE_some hfe).1
          have hle := len_le_bytesE hmem
          have hb0 := bytesE_nonneg es'
          have hb1 : bytesE es' ≤ bytesE es := by obtain ⟨p, rfl, _⟩ := HLf.out; exact bytesE_filter_le _ _
          have HND' := hide hnd
          clear hkey hlk hf hr' hg hx' hwf hnd
          simp only [mkU, mkKept] at hen ⊢
          by_cases hxl : x < low
          · go_wp2_with fail
            refine (drop1_range c x e.idx a e.val.length cp x1 x2 _ hxr.1 hxr.2 ⟨by omega, by omega⟩ (by omega) hheld2 HD.out (fun k hk => HU.out k (Nat.le_trans HI2.out.2.2.2.1.size (by simp at hk; omega))) HND'.out (HI2.out.1.alloc _) (cell_over HI2.out.2.1 _) (cell_over HI2.out.2.2.1 _) (HR'.out.alloc _) (by omega)).mono ?_
            rintro e' w1 ⟨rfl, hR1, hT1, hk1, cn1, hG1, hcn1⟩
            have HI1 := hide ((HI2.out.alloc HU.out _).del HND'.out hheld2 hr1 hr2 hfe hR1 hT1 hk1)
            have HG1 := hide hG1
            clear hR1 hT1 hk1 hG1
            go_wp2
            go_roundw
            case rel =>
              refine ⟨delE es' c x, _, _, cn1, HI1.out, HG1.out, ?_, fun kl h => ?_⟩
              · have := (HLf.out.del hxl)
                obtain ⟨p, h1, h2, h3⟩ := this
                refine ⟨p, h1, h2, fun e he hx hl => ?_⟩
                have h4 := h3 e he hx hl
                simp only [Bool.and_eq_true] at h4 ⊢
                exact ⟨h4, h4.2⟩
              · simp only [Bool.and_eq_true, Bool.not_eq_true'] at h
                unfold upd
                rw [if_neg (by rw [h.2]; decide)]
                exact Hlf.out kl h.1.1
            case measure =>
              have := HG1.out.left_eq
              omega
          · go_wp2
            go_roundw
            case rel => exact ⟨es', _, f, cn', HI2.out.alloc HU.out _, HR'.out.alloc _, HLf.out.pass hxl, fun kl h => Hlf.out kl (by simp only [Bool.and_eq_true] at h; exact h.1)⟩
            case measure =>
              have := (HR'.out.alloc (.cells #[.int .u64 e.idx, .slice a e.val.length cp] 47)).left_eq
              omega
end Go.Proofs.Qxb6617896a
