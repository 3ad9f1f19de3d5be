import Derived.Test.Qxb6617896aRep2
import Derived.Deep.RegionHeld3
import Derived.BigRegion
namespace Go.Proofs.Qxb6617896a
open Go.ChangeShapes Go.WideShapes Go.ChangeAt Go.RowKit
open Go.Maps (Keyed)

theorem blk_same {w : World} {rb o : Nat} {u : Value} {ob : Obj} {k : Nat} (hk : k < w.heap.size) (hne : k ≠ rb) : ((w.setCell ⟨rb, o, none⟩ u).alloc ob).drew.heap[k]? = w.heap[k]? :=
  (Below.heap_alloc (w.setCell ⟨rb, o, none⟩ u) ob k (by simp [World.setCell]; exact hk)).trans (Below.heap_setCell _ _ _ _ hne)

set_option maxHeartbeats 1000000 in
/-- The closure of dropBelow: the reply s of c, of n bytes, goes. -/
theorem drop1_plain {rb : Nat} {S Vb : Nat → Prop} {es : List Ent} {hs : List Hold} {B : Int} {N bk bf : Nat} {blk : ByteArray → Nat} (c : ByteArray) (s : Int) (idx : Int) (a : Option Addr) (n cp : Nat) (x1 x2 : Nat) (w : World)
    (hs0 : 0 ≤ s) (hs1 : s ≤ 18446744073709551615) (hB : -4611686018427387904 ≤ B ∧ B ≤ 4611686018427387904) (hn : n ≤ 1048576) (hh : (holdOf hs c).isSome = true) (hd : ∀ k, Vb k → ¬ S k) (hup : ∀ k, w.heap.size ≤ k → S k) (hnod : NodE es)
    (h : Rep w rb S Vb es hs B N bk bf blk) (hx1 : w.cell? ⟨x1, 0, none⟩ = some (.pointer (some ⟨rb, 0, none⟩))) (hx2 : w.cell? ⟨x2, 0, none⟩ = some (.map (some (blk c)))) :
    Calls Try.prog 53 #[.int .u64 s, .agg #[.int .u64 idx, .slice a n cp], .pointer (some ⟨x1, 0, none⟩), .pointer (some ⟨x2, 0, none⟩)] w fun e w' => e = .returned (.tuple #[]) ∧ Rep w' rb S Vb (delE es c s) hs (B - n) N bk bf blk ∧ Tch S w w' ∧ (∀ k, k < w.heap.size → k ≠ rb → k ≠ blk c → w'.heap[k]? = w.heap[k]?) := by
  have h1 := h.cell1
  have f1 := h.fz 1
  have hlt := h.ltR
  have hx1l := cell_lt hx1
  have hx2l := cell_lt hx2
  have HS := hide hup
  have HD := hide hd
  have HR := hide h
  have HR2 := hide (((h.setB hd (B - n)).alloc (.cells #[.int .u64 idx, .slice a n cp] 47)).drewN 1)
  obtain ⟨fi, hm, hf⟩ := HR2.out.inner c hh
  have HM := hide hm
  clear hm hf h hup hd
  go_enter Try.func53, Try.ntmps53
  go_wp2
  go_region
  go_wp2_with (at_delete; refine wpList_drop rfl _ _ 77 31 rfl HM.out kl31 Try.underlying77 rfl rfl (keyI hs0 hs1) ?_; intro w1 hm1 ht1; have HM1 := hide hm1; have HT1 := hide ht1; clear hm1 ht1)
  go_end0
  refine ⟨rfl, HR2.out.delInner HD.out hnod hh HM.out HM1.out HT1.out, ?_, fun k hk hr' hb' => ?_⟩
  · exact ((((Tch.refl S w).setCell (p := ⟨rb, 1, none⟩) HR.out.sR _).alloc (HS.out _ (by simp [World.setCell])) _).drew).turned HT1.out (HR.out.sI c hh)
  · exact (turned_block HT1.out hb').trans (blk_same hk hr')

set_option maxHeartbeats 1000000 in
/-- The closure of dropBelow: the reply s of c, of n bytes, goes. -/
theorem drop1_range {rb : Nat} {S Vb : Nat → Prop} {es : List Ent} {hs : List Hold} {B : Int} {N bk bf : Nat} {blk : ByteArray → Nat} (c : ByteArray) (s : Int) (idx : Int) (a : Option Addr) (n cp : Nat) (x1 x2 : Nat) (w : World)
    (hs0 : 0 ≤ s) (hs1 : s ≤ 18446744073709551615) (hB : -4611686018427387904 ≤ B ∧ B ≤ 4611686018427387904) (hn : n ≤ 1048576) (hh : (holdOf hs c).isSome = true) (hd : ∀ k, Vb k → ¬ S k) (hup : ∀ k, w.heap.size ≤ k → S k) (hnod : NodE es)
    (h : Rep w rb S Vb es hs B N bk bf blk) (hx1 : w.cell? ⟨x1, 0, none⟩ = some (.pointer (some ⟨rb, 0, none⟩))) (hx2 : w.cell? ⟨x2, 0, none⟩ = some (.map (some (blk c)))) {f : Lit → Option Value} {left : Lit → Bool} {r cn : Nat} (hr : RangeIs w (blk c) 31 r f (cnt es c) left cn) (hrR : r ≠ rb) :
    Calls Try.prog 53 #[.int .u64 s, .agg #[.int .u64 idx, .slice a n cp], .pointer (some ⟨x1, 0, none⟩), .pointer (some ⟨x2, 0, none⟩)] w fun e w' => e = .returned (.tuple #[]) ∧ Rep w' rb S Vb (delE es c s) hs (B - n) N bk bf blk ∧ Tch S w w' ∧ (∀ k, k < w.heap.size → k ≠ rb → k ≠ blk c → w'.heap[k]? = w.heap[k]?) ∧ ∃ cn', RangeIs w' (blk c) 31 r (upd f (ik s) none) (cnt (delE es c s) c) (fun z => left z && !z.sameKey (ik s)) cn' ∧ cn' ≤ cn := by
  have h1 := h.cell1
  have f1 := h.fz 1
  have hlt := h.ltR
  have hx1l := cell_lt hx1
  have hx2l := cell_lt hx2
  have HS := hide hup
  have HD := hide hd
  have HR := hide h
  have HR2 := hide (((h.setB hd (B - n)).alloc (.cells #[.int .u64 idx, .slice a n cp] 47)).drewN 1)
  obtain ⟨fi, hm, hf⟩ := HR2.out.inner c hh
  have HM := hide hm
  have hrl := hr.lt
  have hbl := h.ltI hh
  obtain ⟨fi0, hm0, hf0⟩ := h.inner c hh
  have hbr := map_ne_str h hm0
  have HG : Hid (RangeIs ((((w.setCell ⟨rb, 1, none⟩ (.int .i64 (B - n))).alloc (.cells #[.int .u64 idx, .slice a n cp] 47))).drewN 1) (blk c) 31 r f (cnt es c) left cn) :=
    hr.kept (blk_same hbl hbr) (blk_same hrl hrR)
  clear hr hm0 hf0
  clear hm hf h hup hd
  go_enter Try.func53, Try.ntmps53
  go_wp2
  go_region
  go_wp2_with (at_delete; refine wpList_dropR rfl _ _ 77 31 rfl HG.out kl31 Try.underlying77 rfl rfl (keyI hs0 hs1) ?_; intro w1 cn1 hm1 hcn1 ht1; have HM1 := hide hm1; have HT1 := hide ht1; clear hm1 ht1)
  go_end0
  have HM2 := HM1.out.owns
  have hcn : delN f (ik s) (cnt es c) = cnt (delE es c s) c := by
    have hR := HR2.out.delInner HD.out hnod hh HG.out.owns HM2 HT1.out
    obtain ⟨_, hq, _⟩ := hR.inner c hh
    exact (HM2.unique hq).1
  refine ⟨rfl, HR2.out.delInner HD.out hnod hh HG.out.owns HM2 HT1.out, ?_, fun k hk hr' hb' => ?_, cn1, hcn ▸ HM1.out, hcn1⟩
  · exact ((((Tch.refl S w).setCell (p := ⟨rb, 1, none⟩) HR.out.sR _).alloc (HS.out _ (by simp [World.setCell])) _).drew).turned HT1.out (HR.out.sI c hh)
  · exact (turned_block HT1.out hb').trans (blk_same hk hr')
end Go.Proofs.Qxb6617896a
