import Derived.Test.Qxb6617896aSmall
import Derived.Deep.RegionHeld3
import Derived.Deep.DrawnRows
import Derived.Deep.DeepCutAuto
namespace Go.Proofs.Qxb6617896a
open Go.ChangeShapes Go.WideShapes Go.ChangeAt Go.RowKit
attribute [local go_sem ↓] Go.wp_at_zero Go.wp_at_succ

def z51 : Value := .agg #[.string ⟨#[]⟩, .int .u64 0, .int .u64 0, .int .u64 0, .slice none 0 0]
theorem info51 : (Try.prog.info? 51).map (fun i => (i.zero, i.size, i.bytes)) = some (some z51, 5, 64) := by kernel_rfl

theorem make_steps : ∃ zc : Array Value, ∀ n : Nat, n ≤ 1048576 → ∀ w : World, (Instr.makeSlice 36 (.int .i64 (n : Int)) (.int .i64 (n : Int))).run Try.prog w = .ok (.slice (some ⟨w.heap.size, 0, none⟩) n n) (w.alloc (.cells (madeCells zc (n * 5)) 51)) := by
  refine ⟨z51.cells, fun n hn w => ?_⟩
  obtain ⟨i, hi, hzz⟩ := Option.map_eq_some_iff.1 info51
  simp only [Prod.mk.injEq] at hzz
  obtain ⟨hz, hs, hb⟩ := hzz
  have hr := run_make (P := Try.prog) w 36 51 i z51 Try.underlying36 hi hz .i64 .i64 n n (by omega) (Int.le_refl _) (by rw [hb]; omega) (by omega)
  simp only [Int.toNat_natCast, hs] at hr
  exact hr

theorem made_row (w : World) (zc : Array Value) (m : Nat) : (w.alloc (.cells (madeCells zc m) 51)).rowIs w.heap.size 51 m (fun p => zc[p % zc.size]!) := by
  have := World.rowIs_alloc w (madeCells zc m) 51 (fun p => zc[p % zc.size]!) (fun i hi => by
    rw [size_madeCells] at hi
    simp [madeCells, hi])
  rw [size_madeCells] at this
  exact this

/-- The first k steps are written into block B. -/
def Out (wr : World) (B n k : Nat) (T : Nat → Stp) : Prop :=
  ∃ (f : Nat → Value) (A : Nat → Option Addr) (K : Nat → Nat), wr.rowIs B 51 (n * 5) f ∧ (∀ i, i < k → f (i * 5) = .string (T i).c ∧ f (i * 5 + 1) = .int .u64 (T i).seq ∧ f (i * 5 + 2) = .int .u64 (T i).low ∧ f (i * 5 + 3) = .int .u64 (T i).idx ∧ f (i * 5 + 4) = .slice (A i) (T i).val.length (K i)) ∧
    ∀ i, i < k → SlV wr (fun q => q ≠ B) (A i) (T i).val.length (K i) (fun j => .int .u8 ((T i).val.getD j 0))

def RetSteps' (w1 : World) (B n : Nat) (T : Nat → Stp) : Prop := ∃ A K, StepsAt w1 (some ⟨B, 0, none⟩) n n T A K

theorem slv_up {w : World} {P Q : Nat → Prop} {a : Option Addr} {n c : Nat} {V : Nat → Value} (h : SlV w P a n c V) (hq : ∀ q, P q → Q q) : SlV w Q a n c V :=
  ⟨h.1, h.2.1, fun hn => let ⟨b, off, ha, hb, hp, hc⟩ := h.2.2 hn; ⟨b, off, ha, hb, hq b hp, hc⟩⟩

theorem Out.step {w1 : World} {B n j : Nat} {T : Nat → Stp} {f : Nat → Value} {A : Nat → Option Addr} {K : Nat → Nat} (hrow : w1.rowIs B 51 (n * 5) f)
    (hf : ∀ i, i < j → f (i * 5) = .string (T i).c ∧ f (i * 5 + 1) = .int .u64 (T i).seq ∧ f (i * 5 + 2) = .int .u64 (T i).low ∧ f (i * 5 + 3) = .int .u64 (T i).idx ∧ f (i * 5 + 4) = .slice (A i) (T i).val.length (K i))
    (hs : ∀ i, i < j → SlV w1 (fun q => q ≠ B) (A i) (T i).val.length (K i) (fun j => .int .u8 ((T i).val.getD j 0))) {a1 : Option Addr} {c1 : Nat} (h1 : SlV w1 (fun q => q ≠ B) a1 (T j).val.length c1 (fun i => .int .u8 ((T j).val.getD i 0))) :
    Out (((((w1.setCell ⟨B, j * 5, none⟩ (.string (T j).c)).setCell ⟨B, j * 5 + 1, none⟩ (.int .u64 (T j).seq)).setCell ⟨B, j * 5 + 2, none⟩ (.int .u64 (T j).low)).setCell ⟨B, j * 5 + 3, none⟩ (.int .u64 (T j).idx)).setCell ⟨B, j * 5 + 4, none⟩ (.slice a1 (T j).val.length c1)) B n (j + 1) T := by
  have hsz : ∀ (w : World) (p : Addr) (u : Value), (w.setCell p u).heap.size = w.heap.size := fun w p u => by simp [World.setCell]
  have ho : ∀ k, k ≠ B → (((((w1.setCell ⟨B, j * 5, none⟩ (.string (T j).c)).setCell ⟨B, j * 5 + 1, none⟩ (.int .u64 (T j).seq)).setCell ⟨B, j * 5 + 2, none⟩ (.int .u64 (T j).low)).setCell ⟨B, j * 5 + 3, none⟩ (.int .u64 (T j).idx)).setCell ⟨B, j * 5 + 4, none⟩ (.slice a1 (T j).val.length c1)).heap[k]? = w1.heap[k]? := fun k hk => by
    rw [Below.heap_setCell _ _ _ _ hk, Below.heap_setCell _ _ _ _ hk, Below.heap_setCell _ _ _ _ hk, Below.heap_setCell _ _ _ _ hk, Below.heap_setCell _ _ _ _ hk]
  refine ⟨_, fun i => if i = j then a1 else A i, fun i => if i = j then c1 else K i, ((((hrow.set (j * 5) _).set (j * 5 + 1) _).set (j * 5 + 2) _).set (j * 5 + 3) _).set (j * 5 + 4) _, fun i hi => ?_, fun i hi => ?_⟩
  · by_cases e : i = j
    · subst e
      simp
    · have hlt : i < j := by omega
      obtain ⟨f0, f1, f2, f3, f4⟩ := hf i hlt
      have n0 : ∀ r s : Nat, r < 5 → s < 5 → ¬ i * 5 + r = j * 5 + s := by intro r s h1 h2 h3; omega
      have m0 := fun s h => n0 0 s (by omega) h
      simp only [Nat.add_zero] at m0
      have m1 := fun r h => n0 r 0 h (by omega)
      simp only [Nat.add_zero] at m1
      have m2 : ¬ i * 5 = j * 5 := by omega
      simp only [e, if_false, m2, m0 1 (by omega), m0 2 (by omega), m0 3 (by omega), m0 4 (by omega), m1 1 (by omega), m1 2 (by omega), m1 3 (by omega), m1 4 (by omega), n0 1 1 (by omega) (by omega), n0 1 2 (by omega) (by omega), n0 1 3 (by omega) (by omega), n0 1 4 (by omega) (by omega), n0 2 1 (by omega) (by omega), n0 2 2 (by omega) (by omega), n0 2 3 (by omega) (by omega), n0 2 4 (by omega) (by omega), n0 3 1 (by omega) (by omega), n0 3 2 (by omega) (by omega), n0 3 3 (by omega) (by omega), n0 3 4 (by omega) (by omega), n0 4 1 (by omega) (by omega), n0 4 2 (by omega) (by omega), n0 4 3 (by omega) (by omega), n0 4 4 (by omega) (by omega)]
      exact ⟨f0, f1, f2, f3, f4⟩
  · by_cases e : i = j
    · subst e
      simp only [if_true]
      exact h1.carry (by simp [hsz]) (fun k hk _ => ho k hk)
    · simp only [e, if_false]
      exact (hs i (by omega)).carry (by simp [hsz]) (fun k hk _ => ho k hk)

theorem Out.whole {w1 : World} {B n : Nat} {T : Nat → Stp} (h : Out w1 B n n T) (hn : n ≤ 1048576) (hok : ∀ i, i < n → StpOk (T i)) : RetSteps' w1 B n T := by
  obtain ⟨f, A, K, hrow, hf, hs⟩ := h
  refine ⟨A, K, Nat.le_refl _, by unfold maxLen; omega, hok, fun i hi => (hs i hi).sl, fun _ => ⟨B, 0, rfl, hrow.lt, fun i hi => ?_⟩⟩
  obtain ⟨f0, f1, f2, f3, f4⟩ := hf i hi
  have g := fun r (hr : r < 5) => hrow.cell (i := i * 5 + r) (by omega)
  rw [Nat.zero_add]
  exact ⟨f0 ▸ g 0 (by omega), f1 ▸ g 1 (by omega), f2 ▸ g 2 (by omega), f3 ▸ g 3 (by omega), f4 ▸ g 4 (by omega)⟩

/-- The same steps come back, in memory of their own. -/
def RetSteps (w' : World) (n : Nat) (T : Nat → Stp) (e : Ending) : Prop := ∃ a c A K, e = .returned (.slice a n c) ∧ StepsAt w' a n c T A K

set_option maxHeartbeats 4000000 in
set_option maxRecDepth 100000 in
/-- zzCloneSteps. -/
theorem cloneSteps (a : Option Addr) (n c : Nat) (T : Nat → Stp) (A : Nat → Option Addr) (K : Nat → Nat) (w : World) (h : StepsAt w a n c T A K) (hn : n ≤ 4096) (hv : ∀ i, i < n → (T i).val.length ≤ 1048576) :
    Calls Try.prog 21 #[.slice a n c] w fun e w' => RetSteps w' n T e ∧ Below w.heap.size w w' := by
  have q36 : ∀ (w : World) (a : Option Addr) (n c n' c' : Nat), (binOp .eql 36 (.slice a n c) (.slice none n' c')).run Try.prog w = .ok (.bool a.isNone) w := fun w a n c n' c' => Lib.run_eql_slice_nil w _ _ a n c n' c' Try.underlying36
  have HA := hide h
  obtain ⟨hnc, hcm, hok, hsl, hc⟩ := h
  have HOK := hide hok
  have HSL := hide hsl
  have HC := hide hc
  have HV := hide hv
  clear hok hsl hc hv
  unfold maxLen at hcm
  cases a with
  | none =>
    have h0 : n = 0 := by
      rcases Nat.eq_zero_or_pos n with h0 | h0
      · exact h0
      · obtain ⟨b, off, ha, _⟩ := HC.out h0
        cases ha
    subst h0
    go_enter Try.func21, Try.ntmps21
    go_wp2
    go_ret
    exact ⟨⟨none, 0, A, K, rfl, Nat.le_refl _, by unfold maxLen; omega, fun i hi => absurd hi (by omega), fun i hi => absurd hi (by omega), fun h => absurd h (by omega)⟩, Below.refl _ _⟩
  | some x =>
    obtain ⟨zc, hmk0⟩ := make_steps
    have hmk := hmk0 n (by omega)
    clear hmk0
    go_enter Try.func21, Try.ntmps21
    go_wp2
    go_loopw [4] (fun i wr => ∃ j : Nat, j ≤ n ∧ i = .int .i64 j ∧ Hid (Below w.heap.size w wr) ∧ Hid (Out wr w.heap.size n j T)) (fun i _ => n - (intOf i).toNat)
    case atStart =>
      exact ⟨0, Nat.zero_le _, rfl, (Below.refl _ _).alloc (Nat.le_refl _) _, _, A, K, made_row _ _ _, fun i hi => absurd hi (by omega), fun i hi => absurd hi (by omega)⟩
    case round =>
      obtain ⟨j, hj, rfl, HB, HOut⟩ := hrel
      by_cases hlt : j < n
      · obtain ⟨b, off, hx, hbl, hcell⟩ := HC.out (by omega)
        obtain rfl : x = ⟨b, off, none⟩ := by simpa using hx
        obtain ⟨d0, d1, d2, d3, d4⟩ := hcell j hlt
        obtain ⟨f, A', K', hrow, hf, hsl'⟩ := HOut.out
        have g0 := (HB.out.cell (p := ⟨b, off + j * 5, none⟩) hbl).trans d0
        have g1 := (HB.out.cell (p := ⟨b, off + j * 5 + 1, none⟩) hbl).trans d1
        have g2 := (HB.out.cell (p := ⟨b, off + j * 5 + 2, none⟩) hbl).trans d2
        have g3 := (HB.out.cell (p := ⟨b, off + j * 5 + 3, none⟩) hbl).trans d3
        have g4 := (HB.out.cell (p := ⟨b, off + j * 5 + 4, none⟩) hbl).trans d4
        have HRow := hide hrow
        have HF := hide hf
        have HS' := hide hsl'
        have hbs := HB.out.size
        have HSj := hide ((HSL.out j hlt).below HB.out)
        have hvj := HV.out j hlt
        have p0 : wr.drew.cell? ⟨b, off + j * 5, none⟩ = some (.string (T j).c) := g0
        have p1 : wr.drew.cell? ⟨b, off + j * 5 + 1, none⟩ = some (.int .u64 (T j).seq) := g1
        have p2 : wr.drew.cell? ⟨b, off + j * 5 + 2, none⟩ = some (.int .u64 (T j).low) := g2
        have p3 : wr.drew.cell? ⟨b, off + j * 5 + 3, none⟩ = some (.int .u64 (T j).idx) := g3
        have p4 : wr.drew.cell? ⟨b, off + j * 5 + 4, none⟩ = some (.slice (A j) (T j).val.length (K j)) := g4
        have hne1 : ¬ b = w.heap.size := by omega
        have hne2 : ¬ w.heap.size = b := by omega
        have hji : (0 : Int) ≤ (j : Int) := by omega
        have hjn : (j : Int) < (n : Int) := by omega
        clear hx hcell d0 d1 d2 d3 d4 hrow hf hsl'
        go_wp2
        go_region_held3 (fun w' => w'.cell? ⟨b, off + j * 5, none⟩ = some (.string (T j).c) ∧ w'.cell? ⟨b, off + j * 5 + 1, none⟩ = some (.int .u64 (T j).seq) ∧ w'.cell? ⟨b, off + j * 5 + 2, none⟩ = some (.int .u64 (T j).low) ∧ w'.cell? ⟨b, off + j * 5 + 3, none⟩ = some (.int .u64 (T j).idx) ∧ w'.cell? ⟨b, off + j * 5 + 4, none⟩ = some (.slice (A j) (T j).val.length (K j)))
          (first | with_reducible exact ⟨p0, p1, p2, p3, p4⟩ | with_reducible exact ⟨k0, k1, k2, k3, k4⟩ | go_keep)
          (first | (go_at_call 39; refine (cloneBytes (A j) (T j).val (K j) wr.drew hvj HSj.out).mono ?_; rintro e w1 ⟨⟨a1, c1, rfl, hs1⟩, hb1⟩; have HS1 := hide (slv_up hs1 (Q := fun q => q ≠ w.heap.size) (fun q hq e => by have hrl := HRow.out.lt; subst e; exact absurd hq (by show ¬ wr.heap.size ≤ _; omega))); have HB1 := hide hb1; have k0 := (hb1.cell (p := ⟨b, off + j * 5, none⟩) (cell_lt g0)).trans g0; have k1 := (hb1.cell (p := ⟨b, off + j * 5 + 1, none⟩) (cell_lt g1)).trans g1; have k2 := (hb1.cell (p := ⟨b, off + j * 5 + 2, none⟩) (cell_lt g2)).trans g2; have k3 := (hb1.cell (p := ⟨b, off + j * 5 + 3, none⟩) (cell_lt g3)).trans g3; have k4 := (hb1.cell (p := ⟨b, off + j * 5 + 4, none⟩) (cell_lt g4)).trans g4; have HRow1 := hide (HRow.out.of_block (hb1.block _ HRow.out.lt)); have m0 := HRow1.out.cell (i := j * 5) (by omega); have m1 := HRow1.out.cell (i := j * 5 + 1) (by omega); have m2 := HRow1.out.cell (i := j * 5 + 2) (by omega); have m3 := HRow1.out.cell (i := j * 5 + 3) (by omega); have m4 := HRow1.out.cell (i := j * 5 + 4) (by omega); have m5 := HRow1.out.frozen; clear hs1 hb1))
        go_wp2
        go_roundw
        case rel =>
          have hb1 : Below w.heap.size w w1 := HB.out.drew.trans (HB1.out.mono hbs)
          refine ⟨j + 1, by omega, by go_num, ((((hb1.setCell (Nat.le_refl _) _).setCell (Nat.le_refl _) _).setCell (Nat.le_refl _) _).setCell (Nat.le_refl _) _).setCell (Nat.le_refl _) _, ?_⟩
          exact Out.step HRow1.out HF.out (fun i hi => (HS'.out i hi).carry HB1.out.size (fun k _ hl => HB1.out.block k hl)) HS1.out
        case measure => simp [intOf]; omega
      · obtain rfl : j = n := by omega
        go_wp2
        go_ret
        obtain ⟨A2, K2, h2⟩ := Out.whole HOut.out (by omega) HOK.out
        exact ⟨⟨_, _, A2, K2, rfl, h2⟩, HB.out⟩
end Go.Proofs.Qxb6617896a
