import Derived.Test.Qxb6617896aMod6
import Derived.Test.Qxb6617896aLook
import Derived.Deep.Onto
namespace Go.Proofs.Qxb6617896a
open Go.ChangeShapes Go.WideShapes Go.ChangeAt Go.RowKit
attribute [local go_sem ↓] Go.wp_at_zero Go.wp_at_succ

/-- The entry's value lies among what was there when the model began. -/
def MOk (w0 : World) (m : ME) : Prop := Sl w0 m.a m.e.val.length m.k (fun j => .int .u8 (m.e.val.getD j 0)) ∧ m.e.c.size ≤ maxLen ∧ 0 ≤ m.e.seq ∧ m.e.seq ≤ 18446744073709551615

/-- At the head of zzModelOf's loop. -/
structure OfAt (wv w0 wr : World) (mb base k : Nat) (T : Nat → Stp) (ms : List ME) (hs : List Hold) : Prop where
  m : ModX wr mb base ms hs
  f : Fr base w0 wr
  p : Plays T k (ms.map ME.e) hs
  v : ∀ m ∈ ms, MOk wv m

def OfAtK (wv w0 wr : World) (mb base k : Nat) (T : Nat → Stp) : Prop := ∃ ms hs, OfAt wv w0 wr mb base k T ms hs

theorem recOf {wv w0 wr : World} {mb n k : Nat} {T : Nat → Stp} {ms : List ME} {hs : List Hold} {a' : Option Addr} {c' : Nat} {A' : Nat → Option Addr} {K' : Nat → Nat} (hS : StepsAt wv a' n c' T A' K') (hk : k < n) (hn : n ≤ 4096) (htot : (tot T n : Int) ≤ 1048576) (hinc : ∀ k, k < n → ∀ j, j < k → (T j).idx < (T k).idx)
    (h : OfAt wv w0 wr mb w0.heap.size k T ms hs) :
    Calls Try.prog 43 #[.pointer (some ⟨mb, 0, none⟩), .agg #[.string (T k).c, .int .u64 (T k).seq, .int .u64 (T k).low, .int .u64 (T k).idx, .slice (A' k) (T k).val.length (K' k)]] wr fun e w' => e = .returned (.tuple #[]) ∧ OfAtK wv w0 w' mb w0.heap.size (k + 1) T ∧ Fr w0.heap.size wr w' := by
  have g := h.p.good (fun i hi => hS.2.2.1 i (by omega)) (fun i hi => hinc i (by omega))
  have ok := hS.2.2.1 k hk
  have hv1 := tot_mono T (n := n) (k := k + 1) (by omega)
  have hv2 := vtot_tot T (k + 1)
  refine (zzModelRecord (T k) (A' k) (K' k) wr rfl g ok (hinc k hk) (by omega) (by omega) h.m).mono ?_
  rintro e w' ⟨rfl, ms', hs', hM, hF, hE, hmem⟩
  refine ⟨rfl, ⟨ms', hs', hM, h.f.trans hF, ⟨_, _, h.p, hE⟩, fun m hm => ?_⟩, hF⟩
  rcases hmem m hm with h' | rfl
  · exact h.v m h'
  · exact ⟨hS.2.2.2.1 k hk, ok.c, ok.s0, ok.s1⟩

/-- What zzModelOf hands back: the struct by value. -/
def RetOf (w w' : World) (n : Nat) (T : Nat → Stp) (e : Ending) : Prop :=
  ∃ ms hs ea ec ha hc, e = .returned (.agg #[.slice ea ms.length ec, .slice ha hs.length hc]) ∧ w'.ownsRow w.heap.size 87 4 (.slice ea ms.length ec) ms.length (eC ms) ∧ w'.ownsRow w.heap.size 83 3 (.slice ha hs.length hc) hs.length (hC hs) ∧ Below w.heap.size w w' ∧ Plays T n (ms.map ME.e) hs ∧ ∀ m ∈ ms, MOk w m

theorem MOk.below {w w' : World} {m : ME} (h : MOk w m) (hb : Below w.heap.size w w') : MOk w' m := ⟨h.1.below hb, h.2⟩

def r57 : Obj := .cells #[.slice none 0 0, .slice none 0 0] 57
theorem OfAt.start {w : World} (T : Nat → Stp) : OfAt w (w.alloc r57) ((w.alloc r57).alloc r57) (w.heap.size + 1) (w.alloc r57).heap.size 0 T [] [] := by
  have hz : (w.alloc r57).heap.size = w.heap.size + 1 := by simp
  have hn : ((w.alloc r57).alloc r57).heap[w.heap.size + 1]? = some r57 := by rw [← hz]; exact heap_alloc_new _ _
  exact ⟨⟨none, 0, none, 0, hn, World.ownsRow_nil _ _ _ _, World.ownsRow_nil _ _ _ _, by omega⟩, (Fr.refl _ _).alloc (Nat.le_refl _) _, ⟨rfl, rfl⟩, fun _ h => (by cases h)⟩

set_option maxHeartbeats 4000000 in
set_option maxRecDepth 100000 in
/-- zzModelOf. -/
theorem zzModelOf (a : Option Addr) (n c : Nat) (T : Nat → Stp) (A : Nat → Option Addr) (K : Nat → Nat) (w : World) (h : StepsAt w a n c T A K) (hn : n ≤ 4096) (htot : (tot T n : Int) ≤ 1048576) (hinc : ∀ k, k < n → ∀ j, j < k → (T j).idx < (T k).idx) :
    Calls Try.prog 27 #[.slice a n c] w fun e w' => RetOf w w' n T e := by
  have HA0 := hide h
  have HA := hide (h.below (w' := w.alloc r57) ((Below.refl _ _).alloc (Nat.le_refl _) _))
  have HINC := hide hinc
  have hnc := h.1
  have hcm := h.2.1
  unfold maxLen at hcm
  clear h hinc
  go_enter Try.func27, Try.ntmps27
  go_wp2_with fail
  obtain ⟨w1, hw1⟩ : ∃ w1, w1 = w.alloc r57 := ⟨_, rfl⟩
  have hz1 : w1.heap.size = w.heap.size + 1 := by rw [hw1]; simp
  have HB1 : Hid (Below w.heap.size w w1) := by rw [hw1]; exact (Below.refl _ _).alloc (Nat.le_refl _) _
  have HRB : Hid (w1.heap[w.heap.size]? = some r57) := by rw [hw1]; exact heap_alloc_new _ _
  have HST := hide (OfAt.start (w := w) T)
  rw [← hw1] at HST HA
  go_loopw [4] (fun i wr => ∃ k : Nat, k ≤ n ∧ i = .int .i64 k ∧ Hid (OfAtK w w1 wr (w.heap.size + 1) w1.heap.size k T)) (fun i _ => n - (intOf i).toNat)
  case atStart =>
    subst hw1
    exact ⟨0, Nat.zero_le _, rfl, [], [], HST.out⟩
  case round =>
    obtain ⟨k, hk, rfl, HK⟩ := hrel
    obtain ⟨ms, hs, hO⟩ := HK.out
    have HO := hide hO
    by_cases hlt : k < n
    · obtain ⟨b', off', rfl, hbl', hcell'⟩ := HA.out.2.2.2.2 (by omega)
      obtain ⟨f0, f1, f2, f3, f4⟩ := hcell' k hlt
      have hB := hO.f.b
      have y0 := (hB.cell (p := ⟨b', off' + k * 5, none⟩) hbl').trans f0
      have y1 := (hB.cell (p := ⟨b', off' + k * 5 + 1, none⟩) hbl').trans f1
      have y2 := (hB.cell (p := ⟨b', off' + k * 5 + 2, none⟩) hbl').trans f2
      have y3 := (hB.cell (p := ⟨b', off' + k * 5 + 3, none⟩) hbl').trans f3
      have y4 := (hB.cell (p := ⟨b', off' + k * 5 + 4, none⟩) hbl').trans f4
      have hki : (0 : Int) ≤ (k : Int) := by omega
      have hkn : (k : Int) < (n : Int) := by omega
      clear hcell' f0 f1 f2 f3 f4 hB hO HK
      go_wp2_with fail
      refine (recOf HA0.out hlt hn htot HINC.out HO.out).mono ?_
      rintro e w5 ⟨rfl, hK5, _⟩
      have HK5 := hide hK5
      clear hK5 y0 y1 y2 y3 y4
      go_wp2_with fail
      exact ⟨⟨k + 1, by omega, by go_num, HK5⟩, by simp [intOf]; omega⟩
    · obtain rfl : k = n := by omega
      obtain ⟨ea, ec, ha, hc, hM⟩ := hO.m
      have c0 := hM.c0
      have c1 := hM.c1
      have hmlt := hM.lt
      have hRb := (hO.f.b.block w.heap.size (by omega)).trans HRB.out
      unfold r57 at hRb
      have r0 : wr.cell? ⟨w.heap.size, 0, none⟩ = some (.slice none 0 0) := by simp [World.cell?, hRb]
      have r1 : wr.cell? ⟨w.heap.size, 1, none⟩ = some (.slice none 0 0) := by simp [World.cell?, hRb]
      have rf0 : wr.frozen? ⟨w.heap.size, 0, none⟩ = false := by simp [World.frozen?, hRb]
      have rf1 : wr.frozen? ⟨w.heap.size, 1, none⟩ = false := by simp [World.frozen?, hRb]
      have hRl : w.heap.size < wr.heap.size := by omega
      have HM := hide hM
      have HRb := hide hRb
      have HP := hide hO.p
      have HF := hide hO.f
      have HV := hide hO.v
      clear hM hO hRb
      have q0 : ((wr.setCell ⟨w.heap.size, 0, none⟩ (.slice ea ms.length ec)).setCell ⟨w.heap.size, 1, none⟩ (.slice ha hs.length hc)).cell? ⟨w.heap.size, 0, none⟩ = some (.slice ea ms.length ec) := by
        rw [World.cell?_setCell_other]
        · exact World.cell?_setCell_same _ _ _ r0
        · simp
      have q1 : ((wr.setCell ⟨w.heap.size, 0, none⟩ (.slice ea ms.length ec)).setCell ⟨w.heap.size, 1, none⟩ (.slice ha hs.length hc)).cell? ⟨w.heap.size, 1, none⟩ = some (.slice ha hs.length hc) := by
        refine World.cell?_setCell_same _ _ _ (u := .slice none 0 0) ?_
        rw [World.cell?_setCell_other]
        · exact r1
        · simp
      go_wp2
      obtain ⟨w9, hw9⟩ : ∃ w9, w9 = (wr.setCell ⟨w.heap.size, 0, none⟩ (.slice ea ms.length ec)).setCell ⟨w.heap.size, 1, none⟩ (.slice ha hs.length hc) := ⟨_, rfl⟩
      rw [← hw9] at q0 q1 ⊢
      refine bodyPost_ret (by simp [results, Try.results27, go_sem, q0, q1]; rfl) rfl ?_
      subst hw9
      have hne : ∀ {e : TypeId} {size : Nat} {v : Value} {m : Nat} {xs : List Value}, wr.ownsRow w1.heap.size e size v m xs → some w.heap.size ≠ v.ownBlock := fun h' e' => by
        have := own_ge h' _ e'.symm
        omega
      have hb : Below w.heap.size w wr := HB1.out.trans (HF.out.b.mono (by omega))
      refine ⟨ms, hs, ea, ec, ha, hc, rfl, ?_, ?_, (hb.setCell (Nat.le_refl _) _).setCell (Nat.le_refl _) _, HP.out, fun m hm => ?_⟩
      · exact (own_setMb (own_setMb HM.out.ent (hne HM.out.ent) _ _) (hne HM.out.ent) _ _).mono (by omega)
      · exact (own_setMb (own_setMb HM.out.hol (hne HM.out.hol) _ _) (hne HM.out.hol) _ _).mono (by omega)
      · exact HV.out m hm
end Go.Proofs.Qxb6617896a
