import Derived.Test.Qxb6617896aMod8
import Derived.Test.Qxb6617896aBy6
namespace Go.Proofs.Qxb6617896a
open Go.ChangeShapes Go.WideShapes Go.ChangeAt Go.RowKit
attribute [local go_sem ↓] Go.wp_at_zero Go.wp_at_succ

/-- The struct that came back lies in a new block. -/
theorem ModX.box {w' : World} {base : Nat} {ms : List ME} {hs : List Hold} {ea ha : Option Addr} {ec hc : Nat} (h1 : w'.ownsRow base 87 4 (.slice ea ms.length ec) ms.length (eC ms)) (h2 : w'.ownsRow base 83 3 (.slice ha hs.length hc) hs.length (hC hs)) (hb : base ≤ w'.heap.size) :
    ModX (w'.alloc (.cells #[.slice ea ms.length ec, .slice ha hs.length hc] 57)) w'.heap.size base ms hs :=
  ⟨ea, ec, ha, hc, heap_alloc_new _ _, h1.alloc _, h2.alloc _, hb⟩

set_option maxHeartbeats 4000000 in
set_option maxRecDepth 100000 in
/-- FnRecordMatchesModel answers true. -/
theorem law6_walk (a : Option Addr) (n c : Nat) (T : Nat → Stp) (A : Nat → Option Addr) (K : Nat → Nat) (w : World) (h : StepsAt w a n c T A K) :
    Calls Try.prog 6 #[.slice a n c] w fun e w' => e = .returned (.bool true) ∧ Below w.heap.size w w' := by
  have HA := hide h
  have hnc := h.1
  have hcm := h.2.1
  unfold maxLen at hcm
  clear h
  go_enter Try.func6, Try.ntmps6
  go_wp2_with fail
  refine (bytes26 a n c T A K w HA.out).mono ?_
  rintro e w' ⟨hr, rfl⟩
  rcases hr with rfl | rfl
  · go_wp2
    go_ret
    exact ⟨rfl, Below.refl _ _⟩
  by_cases t1 : (4096 : Int) < (n : Int)
  · go_wp2
    go_ret
    exact ⟨rfl, Below.refl _ _⟩
  go_wp2_with fail
  refine (stepsOver a n c T A K 1048576 w' (by omega) (by omega) HA.out (by omega)).mono ?_
  rintro e w1 ⟨hr, rfl⟩
  rcases hr with rfl | ⟨rfl, htot⟩
  · go_wp2
    go_ret
    exact ⟨rfl, Below.refl _ _⟩
  go_wp2_with fail
  refine (increasing a n c T A K w1 HA.out (by omega)).mono ?_
  rintro e w2 ⟨hr, q, rfl⟩
  have hbq : Below w1.heap.size w1 (w1.drewN q) := below_drewN (Below.refl _ _) q
  rcases hr with rfl | ⟨rfl, hinc0⟩
  · go_wp2
    go_ret
    exact ⟨rfl, hbq⟩
  have HINC := hide (inc_all hinc0)
  clear hinc0
  have HA2 := hide (HA.out.below hbq)
  have HBQ := hide hbq
  clear hbq
  have HVL : Hid (∀ i, i < n → (T i).val.length ≤ 1048576) := by
    intro i hi
    have h1 := tot_mono T (n := n) (k := i + 1) (by omega)
    simp only [tot] at h1
    omega
  have hvt : vtot T n ≤ 1048576 := by have := vtot_tot T n; omega
  obtain ⟨w2, hw2⟩ : ∃ w2, w2 = w1.drewN q := ⟨_, rfl⟩
  rw [← hw2] at HA2 HBQ ⊢
  clear hw2
  go_wp2_with fail
  refine (cloneSteps a n c T A K _ HA2.out (by omega) HVL.out).mono ?_
  rintro e w3 ⟨⟨a', c', A', K', rfl, hS3⟩, hB3⟩
  have HS3 := hide hS3
  have HB3 := hide (HBQ.out.trans (hB3.mono HBQ.out.size))
  have HA3 := hide (HA2.out.below hB3)
  clear hS3 hB3
  go_wp2_with fail
  refine (zzPlay a' n c' T A' K' w3 HS3.out (by omega) htot HINC.out).mono ?_
  rintro e w4 ⟨rfl, es, hs, hP1⟩
  have HP1 := hide hP1
  have HA4 := hide (HA3.out.below hP1.2.2.2)
  have HB4 := hide (HB3.out.trans (hP1.2.2.2.mono HB3.out.size))
  clear hP1 HS3
  go_wp2_with fail
  refine (zzModelOf a n c T A K w4 HA4.out (by omega) htot HINC.out).mono ?_
  rintro e w5 ⟨ms, hs', ea, ec, ha, hc, rfl, hr1, hr2, hB5, hPl, hmo⟩
  obtain ⟨rfl, rfl⟩ := Plays.det HA.out.2.2.1 HINC.out HP1.out.2.2.1 hPl
  have hBo : Below w4.heap.size w4 (w5.alloc (.cells #[.slice ea ms.length ec, .slice ha hs.length hc] 57)) := hB5.alloc hB5.size _
  have HBO : Hid (Both (w5.alloc (.cells #[.slice ea ms.length ec, .slice ha hs.length hc] 57)) w3.heap.size w5.heap.size w4.heap.size (fun q => w3.heap.size ≤ q) (fun q => q < w3.heap.size) ms hs (2 * n)) :=
    ⟨HP1.out.1.below hBo, ModX.box hr1 hr2 hB5.size, fun m hm => (hmo m hm).below hBo⟩
  have HG := hide (HP1.out.2.1.d (k := n) (m := 1024) (by omega) hvt)
  have HA5 := hide (HA4.out.below hBo)
  have HB6 := hide (HB4.out.trans (hBo.mono HB4.out.size))
  clear hr1 hr2 hB5 hPl hmo hBo
  go_wp2_with fail
  refine (zzSame a n c T A K ⟨#[]⟩ _ (Nat.zero_le _) (by omega) HA5.out HG.out (by omega) HBO.out).mono ?_
  rintro e w7 ⟨rfl, hB7⟩
  have HB7 := hide (HB6.out.trans (hB7.mono HB6.out.size))
  clear hB7
  go_wp2
  go_ret
  exact ⟨rfl, HB7.out⟩
end Go.Proofs.Qxb6617896a
