import Derived.Test.Qxb6617896aPlay0
import Derived.Test.Qxb6617896aShims
import Derived.Test.Qxb6617896aClone
namespace Go.Proofs.Qxb6617896a
open Go.ChangeShapes Go.WideShapes Go.ChangeAt Go.RowKit
attribute [local go_sem ↓] Go.wp_at_zero Go.wp_at_succ

theorem StepsAt.below {w w' : World} {a : Option Addr} {n c : Nat} {T : Nat → Stp} {A : Nat → Option Addr} {K : Nat → Nat} (h : StepsAt w a n c T A K) (hb : Below w.heap.size w w') : StepsAt w' a n c T A K := by
  obtain ⟨h1, h2, h3, h4, h5⟩ := h
  refine ⟨h1, h2, h3, fun i hi => (h4 i hi).below hb, fun hn => ?_⟩
  obtain ⟨b, off, ha, hl, hc⟩ := h5 hn
  refine ⟨b, off, ha, Nat.lt_of_lt_of_le hl hb.size, fun i hi => ?_⟩
  obtain ⟨c0, c1, c2, c3, c4⟩ := hc i hi
  exact ⟨(hb.cell (p := ⟨b, _, none⟩) hl).trans c0, (hb.cell (p := ⟨b, _, none⟩) hl).trans c1, (hb.cell (p := ⟨b, _, none⟩) hl).trans c2, (hb.cell (p := ⟨b, _, none⟩) hl).trans c3, (hb.cell (p := ⟨b, _, none⟩) hl).trans c4⟩

theorem vtot_tot (T : Nat → Stp) : ∀ k, vtot T k + 64 * k ≤ tot T k
  | 0 => by simp [vtot, tot]
  | k + 1 => by
    have := vtot_tot T k
    simp only [vtot, tot]
    omega
theorem tot_mono (T : Nat → Stp) : ∀ {n k : Nat}, k ≤ n → tot T k ≤ tot T n
  | 0, k, h => by rw [show k = 0 by omega]; exact Nat.le_refl _
  | n + 1, k, h => by
    by_cases e : k = n + 1
    · subst e; exact Nat.le_refl _
    · have := tot_mono T (n := n) (k := k) (by omega)
      simp only [tot]
      omega
theorem inc_all {T : Nat → Stp} {n : Nat} (h : ∀ i, 1 ≤ i → i < n → (T (i - 1)).idx < (T i).idx) : ∀ k, k < n → ∀ j, j < k → (T j).idx < (T k).idx
  | 0, _, j, hj => absurd hj (by omega)
  | k + 1, hk, j, hj => by
    have h1 := h (k + 1) (by omega) hk
    simp only [Nat.add_sub_cancel] at h1
    by_cases e : j = k
    · subst e; exact h1
    · have := inc_all h k (by omega) j (by omega)
      omega

/-- At the head of zzPlay's loop, k steps recorded. -/
def AtP (w2 wr : World) (base k : Nat) (T : Nat → Stp) (es : List Ent) (hs : List Hold) (N : Nat) : Prop :=
  RepX wr base (fun q => base ≤ q) (fun q => q < base) es hs N ∧ GoodS es hs T k 1024 ∧ Plays T k es hs ∧ Below base w2 wr

def AtPK (w2 wr : World) (base k : Nat) (T : Nat → Stp) : Prop := ∃ es hs, AtP w2 wr base k T es hs (2 * k)

theorem cellP {w3 wr w' : World} {base k k' : Nat} {T : Nat → Stp} {es es' : List Ent} {hs hs' : List Hold} {N N' b off : Nat} {v : Value} (h' : AtP w3 w' base k' T es' hs' N') (h : AtP w3 wr base k T es hs N) (hb : b < base) (hc : wr.cell? ⟨b, off, none⟩ = some v) : w'.cell? ⟨b, off, none⟩ = some v :=
  (World.cell?_of_block ((h'.2.2.2.block b hb).trans (h.2.2.2.block b hb).symm)).trans hc

/-- One Record in the loop. -/
theorem recP {w3 wr : World} {n k : Nat} {T : Nat → Stp} {es : List Ent} {hs : List Hold} {a' : Option Addr} {c' : Nat} {A' : Nat → Option Addr} {K' : Nat → Nat} (hS : StepsAt w3 a' n c' T A' K') (hk : k < n) (hn : n ≤ 4096) (htot : (tot T n : Int) ≤ 1048576) (hinc : ∀ k, k < n → ∀ j, j < k → (T j).idx < (T k).idx)
    (h : AtP w3 wr w3.heap.size k T es hs (2 * k)) :
    Calls Try.prog 30 #[.pointer (some ⟨w3.heap.size, 0, none⟩), .int .u64 (T k).idx, .agg #[.string (T k).c, .int .u64 (T k).seq, .int .u64 (T k).low, .slice (A' k) (T k).val.length (K' k)]] wr fun e w' => e = .returned (.tuple #[]) ∧ ∃ es' hs', AtP w3 w' w3.heap.size (k + 1) T es' hs' (2 * (k + 1)) := by
  obtain ⟨hX, g, hP, hB⟩ := h
  have ok := hS.2.2.1 k hk
  have hsl := hS.2.2.2.1 k hk
  have hf := floor_mem (c := (T k).c) g.fr
  have hv1 := tot_mono T (n := n) (k := k + 1) (by omega)
  have hv2 := vtot_tot T (k + 1)
  have hby := g.byt
  simp only [vtot] at hv2
  have hel := g.elen
  have hval : SlV wr (fun q => q < w3.heap.size) (A' k) (T k).val.length (K' k) (fun j => .int .u8 ((T k).val.getD j 0)) := by
    refine ⟨hsl.1, hsl.2.1, fun hp => ?_⟩
    obtain ⟨b, off, ha, hb, hc⟩ := hsl.2.2 hp
    exact ⟨b, off, ha, Nat.lt_of_lt_of_le hb hB.size, hb, fun i hi => (hB.cell (p := ⟨b, off + i, none⟩) hb).trans (hc i hi)⟩
  have hlt := hX.ltR
  have hst : ∀ q, wr.heap.size ≤ q → w3.heap.size ≤ q := fun q hq => by omega
  refine (record_any (S := fun q => w3.heap.size ≤ q) (Vb := fun q => q < w3.heap.size) (N := 2 * k) (T k).c (T k).seq (T k).low (T k).idx (T k).val (A' k) (K' k) wr ok.c ok.s0 ok.s1 ok.l0 ok.l1 ok.i0 ok.i1 (fun h0 e he hc => ?_) g.len (fun q h1 h2 => absurd h1 (by omega)) hst g.nodE g.nodH (fun e he => ?_) hf.1 hf.2 (fun e he hc => ?_) (by omega) (by omega) (by omega) hval hX).mono ?_
  · have := g.held e he
    rw [hc, h0] at this
    cases this
  · obtain ⟨j, hj, e'⟩ := g.ix e he
    have := hS.2.2.1 j (by omega)
    rw [e']
    exact ⟨this.i0, this.i1⟩
  · have := g.fl e he
    rw [hc] at this
    exact this
  · rintro e w' ⟨es', hs', hev, rfl, bk, bf, blk, hR, hT, _⟩
    exact ⟨rfl, es', hs', .inr ⟨bk, bf, blk, hR⟩, (g.rec2 ok (hinc k hk)).ev hev, ⟨es, hs, hP, hev⟩, hB.trans (hT.below (fun q hq h' => by omega))⟩

def RetPlay (w w' : World) (n : Nat) (T : Nat → Stp) (e : Ending) : Prop :=
  e = .returned (.pointer (some ⟨w.heap.size, 0, none⟩)) ∧ ∃ es hs, AtP w w' w.heap.size n T es hs (2 * n)

set_option maxHeartbeats 8000000 in
set_option maxRecDepth 100000 in
/-- zzPlay. -/
theorem zzPlay (a : Option Addr) (n c : Nat) (T : Nat → Stp) (A : Nat → Option Addr) (K : Nat → Nat) (w : World) (h : StepsAt w a n c T A K) (hn : n ≤ 4096) (htot : (tot T n : Int) ≤ 1048576) (hinc : ∀ k, k < n → ∀ j, j < k → (T j).idx < (T k).idx) :
    Calls Try.prog 20 #[.slice a n c] w fun e w' => RetPlay w w' n T e := by
  have HA := hide h
  have HINC := hide hinc
  have hnc := h.1
  have hcm := h.2.1
  unfold maxLen at hcm
  clear h hinc
  go_enter Try.func20, Try.ntmps20
  go_wp2_with fail
  go_loopw [4] (fun i wr => ∃ k : Nat, k ≤ n ∧ i = .int .i64 k ∧ Hid (AtPK w wr w.heap.size k T)) (fun i _ => n - (intOf i).toNat)
  case atStart =>
    refine ⟨0, Nat.zero_le _, rfl, [], [], .inl ⟨?_, Nat.le_refl _, rfl, rfl⟩, GoodS.start T 1024, ⟨rfl, rfl⟩, (Below.refl _ _).alloc (Nat.le_refl _) _⟩
    exact heap_alloc_new w _
  case round =>
    obtain ⟨k, hk, rfl, HK⟩ := hrel
    by_cases hlt : k < n
    · obtain ⟨es, hs, hAt⟩ := HK.out
      obtain ⟨b', off', rfl, hbl', hcell'⟩ := HA.out.2.2.2.2 (by omega)
      obtain ⟨f0, f1, f2, f3, f4⟩ := hcell' k hlt
      have hB := hAt.2.2.2
      have hRl := hAt.1.ltR
      have y0 := (hB.cell (p := ⟨b', off' + k * 5, none⟩) hbl').trans f0
      have y1 := (hB.cell (p := ⟨b', off' + k * 5 + 1, none⟩) hbl').trans f1
      have y2 := (hB.cell (p := ⟨b', off' + k * 5 + 2, none⟩) hbl').trans f2
      have y3 := (hB.cell (p := ⟨b', off' + k * 5 + 3, none⟩) hbl').trans f3
      have y4 := (hB.cell (p := ⟨b', off' + k * 5 + 4, none⟩) hbl').trans f4
      have z0 : wr.drew.cell? ⟨b', off' + k * 5, none⟩ = some (.string (T k).c) := y0
      have z1 : wr.drew.cell? ⟨b', off' + k * 5 + 1, none⟩ = some (.int .u64 (T k).seq) := y1
      have z2 : wr.drew.cell? ⟨b', off' + k * 5 + 2, none⟩ = some (.int .u64 (T k).low) := y2
      have z3 : wr.drew.cell? ⟨b', off' + k * 5 + 3, none⟩ = some (.int .u64 (T k).idx) := y3
      have z4 : wr.drew.cell? ⟨b', off' + k * 5 + 4, none⟩ = some (.slice (A k) (T k).val.length (K k)) := y4
      have hki : (0 : Int) ≤ (k : Int) := by omega
      have hkn : (k : Int) < (n : Int) := by omega
      have HAt1 : Hid (AtP w wr.drew w.heap.size k T es hs (2 * k)) := ⟨hAt.1.below ((Below.refl _ _).drew), hAt.2.1, hAt.2.2.1, hB.trans ((Below.refl _ _).drew)⟩
      clear hcell' f0 f1 f2 f3 f4 hB hAt HK
      go_wp2_with fail
      go_region_held3 (fun w' => w'.cell? ⟨b', off' + k * 5, none⟩ = some (.string (T k).c) ∧ w'.cell? ⟨b', off' + k * 5 + 1, none⟩ = some (.int .u64 (T k).seq) ∧ w'.cell? ⟨b', off' + k * 5 + 2, none⟩ = some (.int .u64 (T k).low) ∧ w'.cell? ⟨b', off' + k * 5 + 3, none⟩ = some (.int .u64 (T k).idx) ∧ w'.cell? ⟨b', off' + k * 5 + 4, none⟩ = some (.slice (A k) (T k).val.length (K k)))
        (first | with_reducible exact ⟨z0, z1, z2, z3, z4⟩ | with_reducible exact ⟨v0, v1, v2, v3, v4⟩ | go_keep)
        (first | (go_at_call 30; refine (recP HA.out hlt hn htot HINC.out HAt1.out).mono ?_; rintro e w5 ⟨rfl, es5, hs5, hAt5⟩; have HAt5 := hide hAt5; have v0 : w5.cell? ⟨b', off' + k * 5, none⟩ = some (.string (T k).c) := cellP hAt5 HAt1.out hbl' z0; have v1 : w5.cell? ⟨b', off' + k * 5 + 1, none⟩ = some (.int .u64 (T k).seq) := cellP hAt5 HAt1.out hbl' z1; have v2 : w5.cell? ⟨b', off' + k * 5 + 2, none⟩ = some (.int .u64 (T k).low) := cellP hAt5 HAt1.out hbl' z2; have v3 : w5.cell? ⟨b', off' + k * 5 + 3, none⟩ = some (.int .u64 (T k).idx) := cellP hAt5 HAt1.out hbl' z3; have v4 : w5.cell? ⟨b', off' + k * 5 + 4, none⟩ = some (.slice (A k) (T k).val.length (K k)) := cellP hAt5 HAt1.out hbl' z4; clear hAt5))
      clear v0 v1 v2 v3 v4 z0 z1 z2 z3 z4 y0 y1 y2 y3 y4 HAt1 hRl
      go_wp2_with fail
      exact ⟨⟨k + 1, by omega, by go_num, es5, hs5, HAt5.out⟩, by simp [intOf]; omega⟩
    · obtain rfl : k = n := by omega
      go_wp2
      go_ret
      exact ⟨rfl, HK.out⟩
end Go.Proofs.Qxb6617896a
