import Derived.Test.Qxb6617896aLaw6
import Derived.Test.Qxb6617896aPair
namespace Go.Proofs.Qxb6617896a
open Go.ChangeShapes Go.WideShapes Go.ChangeAt Go.RowKit
attribute [local go_sem ↓] Go.wp_at_zero Go.wp_at_succ

set_option maxHeartbeats 4000000 in
set_option maxRecDepth 100000 in
/-- FnDropBelowMatchesModel answers true. -/
theorem law8_walk (a : Option Addr) (n c : Nat) (g : ByteArray) (low : Int) (T : Nat → Stp) (A : Nat → Option Addr) (K : Nat → Nat) (w : World) (hg : g.size ≤ maxLen) (l0 : 0 ≤ low) (l1 : low ≤ 18446744073709551615) (h : StepsAt w a n c T A K) :
    Calls Try.prog 8 #[.slice a n c, .string g, .int .u64 low] w fun e w' => e = .returned (.bool true) ∧ Below w.heap.size w w' := by
  have HA := hide h
  have hnc := h.1
  have hcm := h.2.1
  have hgm := hg
  unfold maxLen at hcm hgm
  clear h
  go_enter Try.func8, Try.ntmps8
  go_wp2_with fail
  refine (bytes33 a n c g low T A K w hg HA.out).mono ?_
  rintro e w' ⟨hr, rfl⟩
  rcases hr with rfl | rfl
  · go_wp2
    go_ret
    exact ⟨rfl, Below.refl _ _⟩
  by_cases t1 : (4096 : Int) < (n : Int)
  · go_wp2
    go_ret
    exact ⟨rfl, Below.refl _ _⟩
  by_cases t2 : (65536 : Int) < (g.size : Int)
  · go_wp2
    go_ret
    exact ⟨rfl, Below.refl _ _⟩
  go_wp2_with fail
  refine (stepsOver a n c T A K (1048576 - (g.size : Int)) w' (by omega) (by omega) HA.out (by omega)).mono ?_
  rintro e w1 ⟨hr, rfl⟩
  rcases hr with rfl | ⟨rfl, htot0⟩
  · go_wp2
    go_ret
    exact ⟨rfl, Below.refl _ _⟩
  go_wp2_with fail
  refine (increasing a n c T A K w1 HA.out (by omega)).mono ?_
  rintro e w2 ⟨hr, q, rfl⟩
  have hbq : Below w1.heap.size w1 (w1.drewN q) := below_drewN (Below.refl _ _) q
  rcases hr with rfl | ⟨rfl, hinc0⟩
  · go_wp2
    go_ret
    exact ⟨rfl, hbq⟩
  have HINC := hide (inc_all hinc0)
  clear hinc0
  have HA2 := hide (HA.out.below hbq)
  have HBQ := hide hbq
  clear hbq
  have htot : (tot T n : Int) ≤ 1048576 := by omega
  have HVL : Hid (∀ i, i < n → (T i).val.length ≤ 1048576) := by
    intro i hi
    have h1 := tot_mono T (n := n) (k := i + 1) (by omega)
    simp only [tot] at h1
    omega
  have hvt : vtot T n ≤ 1048576 := by have := vtot_tot T n; omega
  obtain ⟨w2, hw2⟩ : ∃ w2, w2 = w1.drewN q := ⟨_, rfl⟩
  rw [← hw2] at HA2 HBQ ⊢
  clear hw2
  go_wp2_with fail
  refine (cloneSteps a n c T A K _ HA2.out (by omega) HVL.out).mono ?_
  rintro e w3 ⟨⟨a', c', A', K', rfl, hS3⟩, hB3⟩
  have HS3 := hide hS3
  have HB3 := hide (HBQ.out.trans (hB3.mono HBQ.out.size))
  have HA3 := hide (HA2.out.below hB3)
  clear hS3 hB3
  go_wp2_with fail
  refine (zzPlay a' n c' T A' K' w3 HS3.out (by omega) htot HINC.out).mono ?_
  rintro e w4 ⟨rfl, es, hs, hP1⟩
  have HP1 := hide hP1
  have HG := hide (hP1.2.1.d (k := n) (m := 1024) (by omega) hvt)
  have hrl := hP1.1.ltR
  clear hP1 HS3
  go_wp2_with fail
  refine (zzDropG g low w4 hg l0 l1 HG.out (by omega) (fun k hk h' => by omega) (fun k hk => by omega) (by omega) HP1.out.1).mono ?_
  rintro e w5 ⟨rfl, bk, bf, blk, hR, hT, _⟩
  have hB45 : Below w3.heap.size w4 w5 := hT.below (fun k hk h' => by omega)
  have HR5 : Hid (RepX w5 w3.heap.size (fun q => w3.heap.size ≤ q) (fun q => q < w3.heap.size) (dropE es g low) (dropH hs g low) (2 * n + 1)) := .inr ⟨bk, bf, blk, hR⟩
  have HA5 := hide (HA3.out.below (HP1.out.2.2.2.trans hB45))
  have HB5 := hide (HB3.out.trans ((HP1.out.2.2.2.trans hB45).mono HB3.out.size))
  clear hR hT hB45 hrl
  go_wp2_with fail
  refine (zzModelOf a n c T A K w5 HA5.out (by omega) htot HINC.out).mono ?_
  rintro e w6 ⟨ms, hs', ea, ec, ha, hc, rfl, hr1, hr2, hB6, hPl, hmo⟩
  obtain ⟨rfl, rfl⟩ := Plays.det HA.out.2.2.1 HINC.out HP1.out.2.2.1 hPl
  have hBo : Below w5.heap.size w5 (w6.alloc (.cells #[.slice ea ms.length ec, .slice ha hs.length hc] 57)) := hB6.alloc hB6.size _
  have HMX := hide (ModX.box hr1 hr2 hB6.size)
  have HMO := hide hmo
  have HBo := hide hBo
  have hml : ms.length ≤ 4096 := by have := HG.out.elen; simpa using this
  have hhl : hs.length ≤ 1024 := HG.out.len
  clear hr1 hr2 hB6 hPl hmo hBo
  go_wp2_with fail
  refine (zzModelDrop g low _ (by omega) (by omega) HG.out.nodH HMX.out).mono ?_
  rintro e w7 ⟨rfl, hM7, hF7⟩
  have hB7 := HBo.out.trans hF7.b
  have HBO : Hid (Both w7 w3.heap.size w6.heap.size w5.heap.size (fun q => w3.heap.size ≤ q) (fun q => q < w3.heap.size) (dropM ms g low) (dropH hs g low) (2 * n + 1)) :=
    ⟨by rw [dropM_map]; exact HR5.out.below hB7, hM7, fun m hm => (HMO.out m (List.mem_filter.1 hm).1).below hB7⟩
  have HG7 : Hid (GoodD ((dropM ms g low).map ME.e) (dropH hs g low) 1025) := by
    show GoodD _ _ _
    rw [dropM_map]
    exact HG.out.drop hg l0 l1
  have HA7 := hide (HA5.out.below hB7)
  have HB7 := hide (HB5.out.trans (hB7.mono HB5.out.size))
  clear hM7 hF7 hB7
  go_wp2_with fail
  refine (zzSame a n c T A K g w7 hg (by omega) HA7.out HG7.out (by omega) HBO.out).mono ?_
  rintro e w8 ⟨rfl, hB8⟩
  have HB8 := hide (HB7.out.trans (hB8.mono HB7.out.size))
  clear hB8
  go_wp2
  go_ret
  exact ⟨rfl, HB8.out⟩
end Go.Proofs.Qxb6617896a
