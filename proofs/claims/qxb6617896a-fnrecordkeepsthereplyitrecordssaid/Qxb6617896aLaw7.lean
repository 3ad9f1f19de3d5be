import Derived.Test.Qxb6617896aGood
import Derived.Test.Qxb6617896aShims
import Derived.Test.Qxb6617896aClone
import Derived.Test.Qxb6617896aBy
namespace Go.Proofs.Qxb6617896a
open Go.ChangeShapes Go.WideShapes Go.ChangeAt Go.RowKit
attribute [local go_sem ↓] Go.wp_at_zero Go.wp_at_succ

theorem Sl.tch {w w' : World} {a : Option Addr} {n c : Nat} {V : Nat → Value} {B : Nat} (h : Sl w a n c V) (hB : w.heap.size ≤ B) (hb : Below B w w') : Sl w' a n c V := h.below (hb.mono hB)
theorem StepsAt.below {w w' : World} {a : Option Addr} {n c : Nat} {T : Nat → Stp} {A : Nat → Option Addr} {K : Nat → Nat} (h : StepsAt w a n c T A K) (hb : Below w.heap.size w w') : StepsAt w' a n c T A K := by
  obtain ⟨h1, h2, h3, h4, h5⟩ := h
  refine ⟨h1, h2, h3, fun i hi => (h4 i hi).below hb, fun hn => ?_⟩
  obtain ⟨b, off, ha, hl, hc⟩ := h5 hn
  refine ⟨b, off, ha, Nat.lt_of_lt_of_le hl hb.size, fun i hi => ?_⟩
  obtain ⟨c0, c1, c2, c3, c4⟩ := hc i hi
  exact ⟨(hb.cell (p := ⟨b, _, none⟩) hl).trans c0, (hb.cell (p := ⟨b, _, none⟩) hl).trans c1, (hb.cell (p := ⟨b, _, none⟩) hl).trans c2, (hb.cell (p := ⟨b, _, none⟩) hl).trans c3, (hb.cell (p := ⟨b, _, none⟩) hl).trans c4⟩

theorem vtot_tot (T : Nat → Stp) : ∀ k, vtot T k + 64 * k ≤ tot T k
  | 0 => by simp [vtot, tot]
  | k + 1 => by
    have := vtot_tot T k
    simp only [vtot, tot]
    omega
theorem tot_mono (T : Nat → Stp) : ∀ {n k : Nat}, k ≤ n → tot T k ≤ tot T n
  | 0, k, h => by rw [show k = 0 by omega]; exact Nat.le_refl _
  | n + 1, k, h => by
    by_cases e : k = n + 1
    · subst e; exact Nat.le_refl _
    · have := tot_mono T (n := n) (k := k) (by omega)
      simp only [tot]
      omega
theorem inc_all {T : Nat → Stp} {n : Nat} (h : ∀ i, 1 ≤ i → i < n → (T (i - 1)).idx < (T i).idx) : ∀ k, k < n → ∀ j, j < k → (T j).idx < (T k).idx
  | 0, _, j, hj => absurd hj (by omega)
  | k + 1, hk, j, hj => by
    have h1 := h (k + 1) (by omega) hk
    simp only [Nat.add_sub_cancel] at h1
    by_cases e : j = k
    · subst e; exact h1
    · have := inc_all h k (by omega) j (by omega)
      omega

/-- At the head of law 7's loop, k steps recorded. base: where the Replies lie; below it nothing is written any more. -/
def At7 (w2 wr : World) (base k : Nat) (T : Nat → Stp) (es : List Ent) (hs : List Hold) (N : Nat) : Prop :=
  RepX wr base (fun q => base ≤ q) (fun q => q < base) es hs N ∧ GoodS es hs T k 1024 ∧ Below base w2 wr

def At7K (w2 wr : World) (base k : Nat) (T : Nat → Stp) : Prop := ∃ es hs, At7 w2 wr base k T es hs (2 * k)

theorem At7.grow {w2 wr w' : World} {base k : Nat} {T : Nat → Stp} {es : List Ent} {hs : List Hold} {N : Nat} (h : At7 w2 wr base k T es hs N) (hb : Below wr.heap.size wr w') : At7 w2 w' base k T es hs N :=
  ⟨h.1.below hb, h.2.1, h.2.2.trans (hb.mono (Nat.le_of_lt h.1.ltR))⟩

theorem GoodS.find_none {es : List Ent} {hs : List Hold} {T : Nat → Stp} {k m : Nat} (g : GoodS es hs T k m) {c : ByteArray} {s : Int} (h : holdOf hs c = none) : findE es c s = none :=
  findE_none.2 (fun e he hk => by
    have := g.held e he
    rw [hk.1, h] at this
    cases this)

theorem beqS_true {a b : ByteArray} (h : a = b) : (a.toList == b.toList) = true := by rw [h]; simp
theorem beqS_false {a b : ByteArray} (h : a ≠ b) : (a.toList == b.toList) = false := by
  rw [beq_eq_false_iff_ne]
  intro e
  rw [ByteArray.toList_eq, ByteArray.toList_eq] at e
  apply h
  cases a
  cases b
  simpa using e

theorem cell7 {w3 wr w' : World} {base k k' : Nat} {T : Nat → Stp} {es es' : List Ent} {hs hs' : List Hold} {N N' b off : Nat} {v : Value} (h' : At7 w3 w' base k' T es' hs' N') (h : At7 w3 wr base k T es hs N) (hb : b < base) (hc : wr.cell? ⟨b, off, none⟩ = some v) : w'.cell? ⟨b, off, none⟩ = some v :=
  (World.cell?_of_block ((h'.2.2.block b hb).trans (h.2.2.block b hb).symm)).trans hc

theorem sameEq (a0 : Option Addr) (l : List Int) (c0 : Nat) (a1 : Option Addr) (c1 : Nat) (w : World) (h0 : Sl w a0 l.length c0 (fun j => .int .u8 (l.getD j 0))) (h1 : Sl w a1 l.length c1 (fun j => .int .u8 (l.getD j 0))) (hn : l.length ≤ 1048576) :
    Calls Try.prog 31 #[.slice a0 l.length c0, .slice a1 l.length c1] w fun e w' => e = .returned (.bool true) ∧ ∃ m, w' = w.drewN m := by
  refine (sameBytes a0 l c0 a1 l c1 w h0 h1 hn hn).mono ?_
  rintro e w' ⟨⟨r, rfl, hr⟩, hq⟩
  obtain rfl : r = true := hr.2 rfl
  exact ⟨rfl, hq⟩

/-- What law 7 asks behind a Record. -/
def Seen7 (es' : List Ent) (hs hs' : List Hold) (X : Stp) : Prop :=
  findE es' X.c X.seq = some ⟨X.c, X.seq, X.idx, X.val⟩ ∧ floorOf hs' X.c = flNew (floorOf hs X.c) X.seq X.low ∧ ∀ t, t < X.low → t ≠ X.seq → findE es' X.c t = none

/-- One Record in the loop. -/
theorem rec7 {w3 wr : World} {n k : Nat} {T : Nat → Stp} {es : List Ent} {hs : List Hold} {a' : Option Addr} {c' : Nat} {A' : Nat → Option Addr} {K' : Nat → Nat} (hS : StepsAt w3 a' n c' T A' K') (hk : k < n) (hn : n ≤ 4096) (htot : (tot T n : Int) ≤ 1048576) (hinc : ∀ k, k < n → ∀ j, j < k → (T j).idx < (T k).idx)
    (h : At7 w3 wr w3.heap.size k T es hs (2 * k)) :
    Calls Try.prog 30 #[.pointer (some ⟨w3.heap.size, 0, none⟩), .int .u64 (T k).idx, .agg #[.string (T k).c, .int .u64 (T k).seq, .int .u64 (T k).low, .slice (A' k) (T k).val.length (K' k)]] wr fun e w' => e = .returned (.tuple #[]) ∧ ∃ es' hs', At7 w3 w' w3.heap.size (k + 1) T es' hs' (2 * (k + 1)) ∧ Seen7 es' hs hs' (T k) := by
  obtain ⟨hX, g, hB⟩ := h
  have ok := hS.2.2.1 k hk
  have hsl := hS.2.2.2.1 k hk
  have hf := floor_mem (c := (T k).c) g.fr
  have hv1 := tot_mono T (n := n) (k := k + 1) (by omega)
  have hv2 := vtot_tot T (k + 1)
  have hby := g.byt
  simp only [vtot] at hv2
  have hel := g.elen
  have hval : SlV wr (fun q => q < w3.heap.size) (A' k) (T k).val.length (K' k) (fun j => .int .u8 ((T k).val.getD j 0)) := by
    refine ⟨hsl.1, hsl.2.1, fun hp => ?_⟩
    obtain ⟨b, off, ha, hb, hc⟩ := hsl.2.2 hp
    exact ⟨b, off, ha, Nat.lt_of_lt_of_le hb hB.size, hb, fun i hi => (hB.cell (p := ⟨b, off + i, none⟩) hb).trans (hc i hi)⟩
  have hlt := hX.ltR
  have hst : ∀ q, wr.heap.size ≤ q → w3.heap.size ≤ q := fun q hq => by omega
  refine (record_any (S := fun q => w3.heap.size ≤ q) (Vb := fun q => q < w3.heap.size) (N := 2 * k) (T k).c (T k).seq (T k).low (T k).idx (T k).val (A' k) (K' k) wr ok.c ok.s0 ok.s1 ok.l0 ok.l1 ok.i0 ok.i1 (fun h0 e he hc => ?_) g.len (fun q h1 h2 => absurd h1 (by omega)) hst g.nodE g.nodH (fun e he => ?_) hf.1 hf.2 (fun e he hc => ?_) (by omega) (by omega) (by omega) hval hX).mono ?_
  · have := g.held e he
    rw [hc, h0] at this
    cases this
  · obtain ⟨j, hj, e'⟩ := g.ix e he
    have := hS.2.2.1 j (by omega)
    rw [e']
    exact ⟨this.i0, this.i1⟩
  · have := g.fl e he
    rw [hc] at this
    exact this
  · rintro e w' ⟨es', hs', hev, rfl, bk, bf, blk, hR, hT, _⟩
    refine ⟨rfl, es', hs', ⟨.inr ⟨bk, bf, blk, hR⟩, (g.rec2 ok (hinc k hk)).ev hev, hB.trans (hT.below (fun q hq h' => by omega))⟩, g.seen ok (hinc k hk) hev⟩

set_option maxHeartbeats 8000000 in
set_option maxRecDepth 100000 in
/-- FnRecordKeepsTheReplyItRecords answers true. -/
theorem law7_walk (a : Option Addr) (n c : Nat) (T : Nat → Stp) (A : Nat → Option Addr) (K : Nat → Nat) (w : World) (h : StepsAt w a n c T A K) :
    Calls Try.prog 7 #[.slice a n c] w fun e w' => e = .returned (.bool true) ∧ Below w.heap.size w w' := by
  have HA := hide h
  have hnc := h.1
  have hcm := h.2.1
  unfold maxLen at hcm
  clear h
  go_enter Try.func7, Try.ntmps7
  go_wp2_with fail
  refine (bytes29 a n c T A K w HA.out).mono ?_
  rintro e w' ⟨hr, rfl⟩
  rcases hr with rfl | rfl
  · go_wp2
    go_ret
    exact ⟨rfl, Below.refl _ _⟩
  by_cases t1 : (4096 : Int) < (n : Int)
  · go_wp2
    go_ret
    exact ⟨rfl, Below.refl _ _⟩
  go_wp2_with fail
  refine (stepsOver a n c T A K 1048576 w' (by omega) (by omega) HA.out (by omega)).mono ?_
  rintro e w1 ⟨hr, rfl⟩
  rcases hr with rfl | ⟨rfl, htot⟩
  · go_wp2
    go_ret
    exact ⟨rfl, Below.refl _ _⟩
  go_wp2_with fail
  refine (increasing a n c T A K w1 HA.out (by omega)).mono ?_
  rintro e w2 ⟨hr, q, rfl⟩
  have hbq : Below w1.heap.size w1 (w1.drewN q) := below_drewN (Below.refl _ _) q
  rcases hr with rfl | ⟨rfl, hinc0⟩
  · go_wp2
    go_ret
    exact ⟨rfl, hbq⟩
  have HINC := hide (inc_all hinc0)
  clear hinc0
  have HA2 := hide (HA.out.below hbq)
  have HBQ := hide hbq
  clear hbq
  have hvl : ∀ i, i < n → (T i).val.length ≤ 1048576 := by
    intro i hi
    have h1 := tot_mono T (n := n) (k := i + 1) (by omega)
    simp only [tot] at h1
    omega
  have HVL := hide hvl
  clear hvl
  go_wp2_with fail
  refine (cloneSteps a n c T A K _ HA2.out (by omega) HVL.out).mono ?_
  rintro e w3 ⟨⟨a', c', A', K', rfl, hS3⟩, hB3⟩
  have HS3 := hide hS3
  have HB3 : Hid (Below w1.heap.size w1 w3) := HBQ.out.trans (hB3.mono HBQ.out.size)
  have HA3 := hide (HA2.out.below hB3)
  have hc3 := hS3.1
  have hcm3 := hS3.2.1
  unfold maxLen at hcm3
  clear hS3 hB3 HA HA2 HBQ
  go_wp2_with fail
  obtain ⟨base, hbase⟩ : ∃ base, base = w3.heap.size := ⟨_, rfl⟩
  go_loopw [5] (fun i wr => ∃ k : Nat, k ≤ n ∧ i = .int .i64 k ∧ Hid (At7K w3 wr w3.heap.size k T)) (fun i _ => n - (intOf i).toNat)
  case atStart =>
    refine ⟨0, Nat.zero_le _, rfl, [], [], .inl ⟨?_, Nat.le_refl _, rfl, rfl⟩, GoodS.start T 1024, (Below.refl _ _).alloc (Nat.le_refl _) _⟩
    exact heap_alloc_new w3 _
  case round =>
    obtain ⟨k, hk, rfl, HK⟩ := hrel
    by_cases hlt : k < n
    · obtain ⟨es, hs, hAt⟩ := HK.out
      obtain ⟨b, off, rfl, hbl, hcell⟩ := HA3.out.2.2.2.2 (by omega)
      obtain ⟨b', off', rfl, hbl', hcell'⟩ := HS3.out.2.2.2.2 (by omega)
      obtain ⟨d0, d1, d2, d3, d4⟩ := hcell k hlt
      obtain ⟨f0, f1, f2, f3, f4⟩ := hcell' k hlt
      have hB := hAt.2.2
      have hRl := hAt.1.ltR
      have x0 := (hB.cell (p := ⟨b, off + k * 5, none⟩) hbl).trans d0
      have x1 := (hB.cell (p := ⟨b, off + k * 5 + 1, none⟩) hbl).trans d1
      have x2 := (hB.cell (p := ⟨b, off + k * 5 + 2, none⟩) hbl).trans d2
      have x3 := (hB.cell (p := ⟨b, off + k * 5 + 3, none⟩) hbl).trans d3
      have x4 := (hB.cell (p := ⟨b, off + k * 5 + 4, none⟩) hbl).trans d4
      have y0 := (hB.cell (p := ⟨b', off' + k * 5, none⟩) hbl').trans f0
      have y1 := (hB.cell (p := ⟨b', off' + k * 5 + 1, none⟩) hbl').trans f1
      have y2 := (hB.cell (p := ⟨b', off' + k * 5 + 2, none⟩) hbl').trans f2
      have y3 := (hB.cell (p := ⟨b', off' + k * 5 + 3, none⟩) hbl').trans f3
      have y4 := (hB.cell (p := ⟨b', off' + k * 5 + 4, none⟩) hbl').trans f4
      have ok := HS3.out.2.2.1 k hlt
      have okc := ok.c
      have HAt := hide hAt
      have HOk := hide ok
      clear hcell hcell' f0 f1 f2 f3 f4 hB hAt ok
      go_wp2_with fail
      refine (zzFloor (T k).c wr okc HAt.out.1).mono ?_
      rintro e w4 ⟨rfl, rfl⟩
      have z0 : w4.drew.cell? ⟨b', off' + k * 5, none⟩ = some (.string (T k).c) := y0
      have z1 : w4.drew.cell? ⟨b', off' + k * 5 + 1, none⟩ = some (.int .u64 (T k).seq) := y1
      have z2 : w4.drew.cell? ⟨b', off' + k * 5 + 2, none⟩ = some (.int .u64 (T k).low) := y2
      have z3 : w4.drew.cell? ⟨b', off' + k * 5 + 3, none⟩ = some (.int .u64 (T k).idx) := y3
      have z4 : w4.drew.cell? ⟨b', off' + k * 5 + 4, none⟩ = some (.slice (A' k) (T k).val.length (K' k)) := y4
      have hki : (0 : Int) ≤ (k : Int) := by omega
      have hkn : (k : Int) < (n : Int) := by omega
      have HAt1 := hide (HAt.out.grow (w' := w4.drew) ((Below.refl _ _).drew))
      go_wp2_with fail
      go_region_held3 (fun w' => w'.cell? ⟨b', off' + k * 5, none⟩ = some (.string (T k).c) ∧ w'.cell? ⟨b', off' + k * 5 + 1, none⟩ = some (.int .u64 (T k).seq) ∧ w'.cell? ⟨b', off' + k * 5 + 2, none⟩ = some (.int .u64 (T k).low) ∧ w'.cell? ⟨b', off' + k * 5 + 3, none⟩ = some (.int .u64 (T k).idx) ∧ w'.cell? ⟨b', off' + k * 5 + 4, none⟩ = some (.slice (A' k) (T k).val.length (K' k)))
        (first | with_reducible exact ⟨z0, z1, z2, z3, z4⟩ | with_reducible exact ⟨v0, v1, v2, v3, v4⟩ | go_keep)
        (first | (go_at_call 30; refine (rec7 HS3.out hlt (by omega) htot HINC.out HAt1.out).mono ?_; rintro e w5 ⟨rfl, es5, hs5, hAt5, hSeen5⟩; have HAt5 := hide hAt5; have HSeen5 := hide hSeen5; have hfin := HS3.out.2.2.2.2 (by omega); have v0 : w5.cell? ⟨b', off' + k * 5, none⟩ = some (.string (T k).c) := cell7 hAt5 HAt1.out hbl' z0; have v1 : w5.cell? ⟨b', off' + k * 5 + 1, none⟩ = some (.int .u64 (T k).seq) := cell7 hAt5 HAt1.out hbl' z1; have v2 : w5.cell? ⟨b', off' + k * 5 + 2, none⟩ = some (.int .u64 (T k).low) := cell7 hAt5 HAt1.out hbl' z2; have v3 : w5.cell? ⟨b', off' + k * 5 + 3, none⟩ = some (.int .u64 (T k).idx) := cell7 hAt5 HAt1.out hbl' z3; have v4 : w5.cell? ⟨b', off' + k * 5 + 4, none⟩ = some (.slice (A' k) (T k).val.length (K' k)) := cell7 hAt5 HAt1.out hbl' z4; clear hAt5 hSeen5 hfin))
      clear v0 v1 v2 v3 v4 z0 z1 z2 z3 z4 y0 y1 y2 y3 y4 x0 x1 x2 x3 x4 HAt HAt1 hRl
      have hB5 := HAt5.out.2.2
      have x0 := (hB5.cell (p := ⟨b, off + k * 5, none⟩) hbl).trans d0
      have x1 := (hB5.cell (p := ⟨b, off + k * 5 + 1, none⟩) hbl).trans d1
      have x2 := (hB5.cell (p := ⟨b, off + k * 5 + 2, none⟩) hbl).trans d2
      have x3 := (hB5.cell (p := ⟨b, off + k * 5 + 3, none⟩) hbl).trans d3
      have x4 := (hB5.cell (p := ⟨b, off + k * 5 + 4, none⟩) hbl).trans d4
      have hR5 := HAt5.out.1.ltR
      have os0 := HOk.out.s0
      have os1 := HOk.out.s1
      clear hB5
      go_wp2_with fail
      refine (zzLookupOf (T k).c (T k).seq w5 okc os0 os1 (fun h0 => HAt5.out.2.1.find_none h0) HAt5.out.1).mono ?_
      rintro e w6 ⟨hlv, hB6⟩
      rw [HSeen5.out.1] at hlv
      obtain ⟨a6, c6, rfl, hs6⟩ := hlv
      have HAt6 := hide (HAt5.out.grow hB6)
      have HS6 := hide (hs6.sl.below hB6)
      have hB6' := HAt6.out.2.2
      have x0 := (hB6'.cell (p := ⟨b, off + k * 5, none⟩) hbl).trans d0
      have x1 := (hB6'.cell (p := ⟨b, off + k * 5 + 1, none⟩) hbl).trans d1
      have x2 := (hB6'.cell (p := ⟨b, off + k * 5 + 2, none⟩) hbl).trans d2
      have x3 := (hB6'.cell (p := ⟨b, off + k * 5 + 3, none⟩) hbl).trans d3
      have x4 := (hB6'.cell (p := ⟨b, off + k * 5 + 4, none⟩) hbl).trans d4
      have HV6 := hide (((HA3.out.2.2.2.1 k hlt).below hB6'))
      have hR6 := HAt6.out.1.ltR
      have hvk := HVL.out k hlt
      have hb6 : b < w6.heap.size := Nat.lt_of_lt_of_le hbl hB6'.size
      clear hs6 hB6 hB6' HAt5
      go_wp2_with fail
      have HS7 : Hid (∀ nq, Sl ((w6.alloc (.cells #[.int .u64 (T k).idx, .slice a6 (T k).val.length c6] 47)).drewN nq) a6 (T k).val.length c6 (fun j => .int .u8 ((T k).val.getD j 0))) := fun nq => (HS6.out.below (w' := w6.alloc _) (by go_grown)).below (below_drewN (Below.refl _ _) nq)
      have HV7 : Hid (∀ nq, Sl ((w6.alloc (.cells #[.int .u64 (T k).idx, .slice a6 (T k).val.length c6] 47)).drewN nq) (A k) (T k).val.length (K k) (fun j => .int .u8 ((T k).val.getD j 0))) := fun nq => (HV6.out.below (w' := w6.alloc _) (by go_grown)).below (below_drewN (Below.refl _ _) nq)
      go_quiet (first | (go_at_call 31; refine Calls.quiet_of (sameEq a6 (T k).val c6 (A k) (K k) _ (HS7.out _) (HV7.out _) hvk)))
      have HAt7 := hide (HAt6.out.grow (w' := (w6.alloc (.cells #[.int .u64 (T k).idx, .slice a6 (T k).val.length c6] 47)).drewN nq) (below_drewN ((Below.refl _ _).alloc (Nat.le_refl _) _) nq))
      obtain ⟨w7, hw7⟩ : ∃ w7, w7 = (w6.alloc (.cells #[.int .u64 (T k).idx, .slice a6 (T k).val.length c6] 47)).drewN nq := ⟨_, rfl⟩
      rw [← hw7] at HAt7 ⊢
      clear hw7 HS7 HV7 HS6 HV6 HAt6 x0 x1 x2 x3 x4 hb6 hR6 hR5
      have hB7 := HAt7.out.2.2
      have hlen7 := HAt7.out.2.1.len
      have hR7 := HAt7.out.1.ltR
      have x0 := (hB7.cell (p := ⟨b, off + k * 5, none⟩) hbl).trans d0
      have x1 := (hB7.cell (p := ⟨b, off + k * 5 + 1, none⟩) hbl).trans d1
      have x2 := (hB7.cell (p := ⟨b, off + k * 5 + 2, none⟩) hbl).trans d2
      clear hB7
      go_wp2_with fail
      refine (zzCoords w7 HAt7.out.1).mono ?_
      rintro e w8 ⟨rfl, rfl⟩
      obtain ⟨f, hf⟩ : ∃ f, floorOf hs (T k).c = f := ⟨_, rfl⟩
      obtain ⟨m, hm⟩ : ∃ m, (if f < (T k).low then (T k).low else f) = m := ⟨_, rfl⟩
      have HF := hide hf
      have HM := hide hm
      rw [hf]
      clear hf hm
      go_upto_if 116 with fail
      go_cut [10] (fun v wx => v = .int .u64 m ∧ wx = w8)
      case first =>
        by_cases t3 : f < (T k).low
        · go_wp2
          go_meet
          case rel => exact ⟨by rw [← HM.out, if_pos t3], rfl⟩
        · go_wp2
          go_meet
          case rel => exact ⟨by rw [← HM.out, if_neg (by omega)], rfl⟩
      case rest =>
        obtain ⟨w9, rfl⟩ : ∃ w9 : World, w9 = wc := ⟨_, rfl⟩
        obtain ⟨rfl, rfl⟩ := hcut
        go_upto_if 128 with fail
        go_cut [10] (fun v wx => v = .int .u64 (flNew f (T k).seq (T k).low) ∧ wx = w9)
        case first =>
          by_cases t4 : (T k).seq < m
          · go_wp2
            go_meet
            case rel => exact ⟨by rw [show flNew f (T k).seq (T k).low = (T k).seq by unfold flNew; rw [HM.out, if_pos t4]], rfl⟩
          · go_wp2
            go_meet
            case rel => exact ⟨by rw [show flNew f (T k).seq (T k).low = m by unfold flNew; rw [HM.out, if_neg (by omega)]], rfl⟩
        case rest =>
          obtain ⟨w10, rfl⟩ : ∃ w10 : World, w10 = wc := ⟨_, rfl⟩
          obtain ⟨rfl, rfl⟩ := hcut
          have hfv : floorOf hs5 (T k).c = flNew f (T k).seq (T k).low := by rw [HSeen5.out.2.1, HF.out]
          go_wp2_with fail
          refine (zzFloor (T k).c w10 okc HAt7.out.1).mono ?_
          rintro e w11 ⟨rfl, rfl⟩
          rw [hfv]
          clear hfv
          go_wp2_with fail
          go_loopw [11] (fun i wr => ∃ j : Nat, j ≤ k ∧ i = .int .i64 j ∧ Hid (At7 w3 wr w3.heap.size (k + 1) T es5 hs5 (2 * (k + 1)))) (fun i _ => k - (intOf i).toNat)
          case atStart => exact ⟨0, Nat.zero_le _, rfl, HAt7⟩
          case round =>
            clear x0 x1 x2 hR7
            obtain ⟨j, hj, rfl, HAt8⟩ := hrel
            obtain ⟨b2, off2, hbe, hbl2, hcell2⟩ := HA3.out.2.2.2.2 (by omega)
            obtain ⟨rfl, rfl⟩ : b = b2 ∧ off = off2 := by simpa using hbe
            by_cases hjk : j < k
            · obtain ⟨g0, g1, _, _, _⟩ := hcell2 j (by omega)
              have G1 := hide g1
              have hB8 := HAt8.out.2.2
              have hR8 := HAt8.out.1.ltR
              have x1 := (hB8.cell (p := ⟨b, off + k * 5 + 1, none⟩) hbl).trans d1
              have x2 := (hB8.cell (p := ⟨b, off + k * 5 + 2, none⟩) hbl).trans d2
              have y0 := (hB8.cell (p := ⟨b, off + j * 5, none⟩) hbl).trans g0
              have y1 := (hB8.cell (p := ⟨b, off + j * 5 + 1, none⟩) hbl).trans g1
              have okj := HS3.out.2.2.1 j (by omega)
              have js0 := okj.s0
              have js1 := okj.s1
              have hji : (0 : Int) ≤ (j : Int) := by omega
              have hjn : (j : Int) < (n : Int) := by omega
              clear hcell2 g0 g1 hB8 hbe okj
              by_cases e1 : (T j).c = (T k).c
              · have e1' := beqS_true e1
                by_cases e2 : (T j).seq < (T k).low
                · have e2' : decide ((T j).seq < (T k).low) = true := decide_eq_true e2
                  by_cases e3 : (T j).seq = (T k).seq
                  · rw [e3] at y1 e2'
                    go_wp2_with fail
                    go_quiet (fail)
                    have HAt9 := hide (HAt8.out.grow (below_drewN (Below.refl _ _) nq))
                    go_wp2_with fail
                    go_roundw
                    case rel => exact ⟨j + 1, by omega, by go_num, HAt9⟩
                    case measure => simp [intOf]; omega
                  · have e3' : decide ((T j).seq = (T k).seq) = false := decide_eq_false e3
                    go_wp2_with fail
                    go_quiet (fail)
                    have HAt9 := hide (HAt8.out.grow (below_drewN (Below.refl _ _) nq))
                    have z1 := (HAt9.out.2.2.cell (p := ⟨b, off + j * 5 + 1, none⟩) hbl).trans G1.out
                    have hR9 := HAt9.out.1.ltR
                    obtain ⟨w12, hw12⟩ : ∃ w12, w12 = wr.drewN nq := ⟨_, rfl⟩
                    rw [← hw12] at HAt9 z1 hR9 ⊢
                    clear hw12 x1 x2 y0 y1 hR8 HAt8 HAt7
                    go_wp2_with fail
                    refine (zzLookupOf (T k).c (T j).seq w12 okc js0 js1 (fun h0 => HAt9.out.2.1.find_none h0) HAt9.out.1).mono ?_
                    rintro e w13 ⟨hlv, hB13⟩
                    rw [HSeen5.out.2.2 _ e2 e3] at hlv
                    obtain rfl := hlv
                    have HAt10 := hide (HAt9.out.grow hB13)
                    clear hB13 hR9 z1 HAt9
                    go_wp2_with fail
                    exact ⟨⟨j + 1, by omega, by go_num, HAt10.out.grow (w' := w13.alloc _) ((Below.refl _ _).alloc (Nat.le_refl _) _)⟩, by simp [intOf]; omega⟩
                · have e2' : decide ((T j).seq < (T k).low) = false := decide_eq_false e2
                  go_wp2_with fail
                  go_quiet (fail)
                  have HAt9 := hide (HAt8.out.grow (below_drewN (Below.refl _ _) nq))
                  go_wp2_with fail
                  go_roundw
                  case rel => exact ⟨j + 1, by omega, by go_num, HAt9⟩
                  case measure => simp [intOf]; omega
              · have e1' := beqS_false e1
                go_wp2_with fail
                go_quiet (fail)
                have HAt9 := hide (HAt8.out.grow (below_drewN (Below.refl _ _) nq))
                go_wp2_with fail
                go_roundw
                case rel => exact ⟨j + 1, by omega, by go_num, HAt9⟩
                case measure => simp [intOf]; omega
            · obtain rfl : j = k := by omega
              go_wp2_with fail
              exact ⟨⟨j + 1, by omega, by go_num, es5, hs5, HAt8.out⟩, by simp [intOf]; omega⟩
    · obtain rfl : k = n := by omega
      obtain ⟨es, hs, hAt⟩ := HK.out
      have HB := hide (HB3.out.trans (hAt.2.2.mono HB3.out.size))
      clear hAt
      go_wp2
      go_ret
      exact ⟨rfl, HB.out⟩
end Go.Proofs.Qxb6617896a
