import Derived.Test.Qxb6617896aDropB
namespace Go.Proofs.Qxb6617896a
open Go.ChangeShapes Go.WideShapes Go.ChangeAt Go.RowKit
open Go.Maps (Keyed)

/-- How many bytes the reply s of c has. -/
def lenAt (es : List Ent) (c : ByteArray) (s : Int) : Nat := match findE es c s with | some e => e.val.length | none => 0
theorem bytesE_put {es : List Ent} (hn : NodE es) (c : ByteArray) (s i : Int) (v : List Int) : bytesE (putE es c s i v) = bytesE es + ((v.length : Int) - (lenAt es c s : Int)) := by
  rw [bytesE_putE hn]
  unfold lenAt
  cases findE es c s <;> simp <;> omega
theorem lenAt_le {es : List Ent} (c : ByteArray) (s : Int) : (lenAt es c s : Int) ≤ bytesE es := by
  unfold lenAt
  cases h : findE es c s with
  | none => have := bytesE_nonneg es; simpa using this
  | some e => exact len_le_bytesE (findE_some h).1

theorem field47_1 (w : World) (x : Int) (a : Option Addr) (n c : Nat) : (Instr.field 47 (.agg #[.int .u64 x, .slice a n c]) 1).run Try.prog w = .ok (.slice a n c) w := by kernel_rfl
theorem field47_0 (w : World) (x : Int) (a : Option Addr) (n c : Nat) : (Instr.field 47 (.agg #[.int .u64 x, .slice a n c]) 0).run Try.prog w = .ok (.int .u64 x) w := by kernel_rfl

/-- (*Replies).Keep, where c is held. -/
theorem keep_held {rb : Nat} {S Vb : Nat → Prop} {es : List Ent} {hs : List Hold} {N bk bf : Nat} {blk : ByteArray → Nat} (c : ByteArray) (s i : Int) (v : List Int) (a : Option Addr) (cp : Nat) (w : World) (hc : c.size ≤ maxLen) (hs0 : 0 ≤ s) (hs1 : s ≤ 18446744073709551615)
    (hh : (holdOf hs c).isSome = true) (hd : ∀ k, Vb k → ¬ S k) (hup : ∀ k, w.heap.size ≤ k → S k) (hnod : NodE es) (hby : bytesE es ≤ 1048576) (hv : v.length ≤ 1048576) (hlen : es.length < 1000000)
    (hval : SlV w Vb a v.length cp (fun j => .int .u8 (v.getD j 0))) (h : Rep w rb S Vb es hs (bytesE es) N bk bf blk) :
    Calls Try.prog 48 #[.pointer (some ⟨rb, 0, none⟩), .string c, .int .u64 s, .agg #[.int .u64 i, .slice a v.length cp]] w fun e w' => RetD w rb S Vb (putE es c s i v) hs N e w' := by
  have hq1 := field47_1
  have h1 := h.cell1
  have f1 := h.fz 1
  have hlt := h.ltR
  have hb0 := bytesE_nonneg es
  have hbp := bytesE_put hnod c s i v
  have hlo := lenAt_le (es := es) c s
  have hcl := cnt_le_length es c
  obtain ⟨fi, hmi, hfi⟩ := h.inner c hh
  obtain ⟨i0, a0, c0, hv0⟩ : ∃ i0 a0 c0, (fi (ik s)).getD (.agg #[.int .u64 0, .slice none 0 0]) = .agg #[.int .u64 i0, .slice a0 (lenAt es c s) c0] := by
    unfold lenAt
    cases hfe : findE es c s with
    | none => rw [(hfi s).1 hfe]; exact ⟨_, _, _, rfl⟩
    | some e =>
      obtain ⟨x, hx, a1, c1, rfl, _⟩ := (hfi s).2 e hfe
      rw [hx]
      exact ⟨_, _, _, rfl⟩
  have HR := hide h
  have HV := hide hv0
  have HMI := hide hmi
  have HD := hide hd
  have HU := hide hup
  have HVal := hide hval
  have HND := hide hnod
  have hlk : (Instr.lookup 77 (.map (some (blk c))) (.int .u64 s) false).run Try.prog (w.alloc (.cells #[.int .u64 i, .slice a v.length cp] 47)).drew = .ok (.agg #[.int .u64 i0, .slice a0 (lenAt es c s) c0]) (w.alloc (.cells #[.int .u64 i, .slice a v.length cp] 47)).drew := by
    have := (hmi.below (w' := (w.alloc (.cells #[.int .u64 i, .slice a v.length cp] 47)).drew) (by go_grown)).look kl31 Try.underlying77 zero47 (keyI hs0 hs1)
    rw [hv0] at this
    exact this
  obtain ⟨L, hL⟩ : ∃ L, lenAt es c s = L := ⟨_, rfl⟩
  rw [hL] at hlk hlo hbp
  clear h hmi hfi hv0 hd hup hval hnod
  go_enter Try.func48, Try.ntmps48
  go_wp2_with fail
  refine (of_held c _ hc hh (HR.out.alloc _)).mono ?_
  rintro e w' ⟨rfl, rfl⟩
  go_wp2_with fail
  go_region
  have HR2 := hide (((HR.out.setB HD.out (bytesE es + ((v.length : Int) - (L : Int)))).alloc (.cells #[.int .u64 i, .slice a v.length cp] 47)).drewN 1)
  obtain ⟨fi2, hmi2, _⟩ := HR2.out.inner c hh
  have HMI2 := hide hmi2
  have HVal2 : Hid (SlV ((((w.setCell ⟨rb, 1, none⟩ (.int .i64 (bytesE es + ((v.length : Int) - (L : Int))))).alloc (.cells #[.int .u64 i, .slice a v.length cp] 47)).drewN 1)) Vb a v.length cp (fun j => .int .u8 (v.getD j 0))) :=
    HVal.out.carry (by show _ ≤ ((w.setCell _ _).alloc _).heap.size; simp [World.setCell]) (fun k hv hl => blk_same hl (fun e => HD.out k hv (e ▸ HR.out.sR)))
  clear hmi2
  go_wp2_with (at_mapUpdate; refine wpList_store rfl _ _ _ 77 rfl HMI2.out kl31 Try.underlying77 (by omega) rfl rfl (keyI hs0 hs1) (val := .agg #[.int .u64 i, .slice a v.length cp]) rfl ?_; intro w2 hm2 ht2; have HM2 := hide hm2; have HT2 := hide ht2; clear hm2 ht2)
  go_end0
  refine ⟨rfl, bk, bf, blk, ?_, ?_, ?_⟩
  · rw [hbp]
    exact HR2.out.putInner HD.out hh HMI2.out HVal2.out HM2.out HT2.out
  · exact ((((Tch.refl S w).setCell (p := ⟨rb, 1, none⟩) HR.out.sR _).alloc (HU.out _ (by simp [World.setCell])) _).drew).turned HT2.out (HR.out.sI c hh)
  · intro k hk hc'
    obtain ⟨o', v', hv'⟩ := hc'
    exact (turned_block HT2.out (fun e => by subst e; exact HMI.out.no_cell hv')).trans (blk_same (cell_lt hv') hk)
end Go.Proofs.Qxb6617896a
