import Derived.Test.Qxb6617896aStage
namespace Go.Proofs.Qxb6617896a
open Go.ChangeShapes Go.WideShapes Go.ChangeAt Go.RowKit
open Go.Maps (Keyed)

theorem keyS_inv {key : Value} {kl : Lit} (h : keyOf Try.prog 9 key = some kl) : ∃ c : ByteArray, key = .string c ∧ kl = sk c ∧ c.size ≤ maxLen := by
  obtain ⟨s, h1, h2, h3⟩ := WideMaps.string_of_keyOf Try.underlying9 h
  exact ⟨s, h1, h2, h3⟩

/-- m is the newest index of c's replies, 0 where it has none. -/
def IsNw (es : List Ent) (c : ByteArray) (m : Int) : Prop := 0 ≤ m ∧ (∀ e ∈ es, e.c = c → e.idx ≤ m) ∧ (m = 0 ∨ ∃ e ∈ es, e.c = c ∧ e.idx = m)

theorem IsNw.one {es : List Ent} {c : ByteArray} {m m' : Int} (h : IsNw es c m) (h' : IsNw es c m') : m = m' := by
  obtain ⟨h0, h1, h2⟩ := h
  obtain ⟨h0', h1', h2'⟩ := h'
  rcases h2 with rfl | ⟨e, he, hc, rfl⟩
  · rcases h2' with rfl | ⟨e', he', hc', rfl⟩
    · rfl
    · have := h1 e' he' hc'; omega
  · have := h1' e he hc
    rcases h2' with rfl | ⟨e', he', hc', rfl⟩
    · omega
    · have := h1 e' he' hc'; omega

def mkS (c : ByteArray) : Value := .string c
def mkM (b : Nat) : Value := .map (some b)

/-- The one whose newest reply is the oldest. -/
def Oldest (es : List Ent) (hs : List Hold) (o : ByteArray) : Prop := (holdOf hs o).isSome ∧ ∀ m, IsNw es o m → ∀ x, (holdOf hs x).isSome → ∀ m', IsNw es x m' → m ≤ m'

def RetO (es : List Ent) (hs : List Hold) (e : Ending) : Prop := ∃ o : ByteArray, e = .returned (.string o) ∧ o.size ≤ maxLen ∧ Oldest es hs o

/-- What the outer loop has seen. -/
def SeenO (es : List Ent) (hs : List Hold) (left : Lit → Bool) (o : ByteArray) (m : Int) (first : Bool) : Prop :=
  (first = true ∧ ∀ x, (holdOf hs x).isSome → left (sk x) = true) ∨ (first = false ∧ (holdOf hs o).isSome ∧ o.size ≤ maxLen ∧ IsNw es o m ∧ ∀ x, (holdOf hs x).isSome → left (sk x) = false → ∀ m', IsNw es x m' → m ≤ m')

/-- What the inner loop has seen. -/
def SeenI (es : List Ent) (c : ByteArray) (left : Lit → Bool) (m : Int) : Prop :=
  0 ≤ m ∧ m ≤ 18446744073709551615 ∧ (∀ e ∈ es, e.c = c → left (ik e.seq) = false → e.idx ≤ m) ∧ (m = 0 ∨ ∃ e ∈ es, e.c = c ∧ e.idx = m)

theorem sk_same {s t : ByteArray} : (sk s).sameKey (sk t) = decide (s = t) := by
  by_cases h : s = t
  · subst h
    rw [WideAt.sameKey_self (sk_key _)]
    simp
  · rw [Maps.sameKey_ne (fun e => h (sk_inj e))]
    simp [h]

theorem SeenO.take {es : List Ent} {hs : List Hold} {left : Lit → Bool} {o x : ByteArray} {at_ m : Int} {first : Bool} (h : SeenO es hs left o at_ first) (hx : (holdOf hs x).isSome) (hxs : x.size ≤ maxLen) (hm : IsNw es x m) (ht : first = true ∨ m < at_) : SeenO es hs (fun z => left z && !z.sameKey (sk x)) x m false := by
  refine .inr ⟨rfl, hx, hxs, hm, fun y hy hl m' hm' => ?_⟩
  simp only [sk_same] at hl
  by_cases e : y = x
  · subst e
    rw [hm.one hm']
    exact Int.le_refl _
  · simp [e] at hl
    rcases h with ⟨_, h1⟩ | ⟨h0, _, _, _, h1⟩
    · rw [h1 y hy] at hl; cases hl
    · have := h1 y hy hl m' hm'
      rcases ht with h2 | h2
      · rw [h0] at h2; cases h2
      · omega

theorem SeenO.pass {es : List Ent} {hs : List Hold} {left : Lit → Bool} {o x : ByteArray} {at_ m : Int} (h : SeenO es hs left o at_ false) (hm : IsNw es x m) (ht : ¬ m < at_) : SeenO es hs (fun z => left z && !z.sameKey (sk x)) o at_ false := by
  rcases h with ⟨h0, _⟩ | ⟨h0, h2, h3, h4, h1⟩
  · cases h0
  · refine .inr ⟨rfl, h2, h3, h4, fun y hy hl m' hm' => ?_⟩
    simp only [sk_same] at hl
    by_cases e : y = x
    · subst e
      rw [← hm.one hm']
      omega
    · simp [e] at hl
      exact h1 y hy hl m' hm'

theorem SeenI.take {es : List Ent} {c : ByteArray} {left : Lit → Bool} {m s : Int} {e : Ent} (h : SeenI es c left m) (hnd : NodE es) (hfe : findE es c s = some e) (hr : e.idx ≤ 18446744073709551615) : SeenI es c (fun z => left z && !z.sameKey (ik s)) (if e.idx ≤ m then m else e.idx) := by
  obtain ⟨h0, h1, h2, h3⟩ := h
  obtain ⟨he, hec, hes⟩ := findE_some hfe
  have hall : ∀ y ∈ es, y.c = c → (left (ik y.seq) && !(ik y.seq).sameKey (ik s)) = false → y.idx ≤ m ∨ y = e := by
    intro y hy hyc hl
    simp only [ik_same] at hl
    by_cases e' : y.seq = s
    · right
      have h4 := findE_of_mem hnd hy
      rw [hyc, e', hfe] at h4
      exact (Option.some.inj h4).symm
    · left
      simp [e'] at hl
      exact h2 y hy hyc hl
  by_cases ht : e.idx ≤ m
  · rw [if_pos ht]
    refine ⟨h0, h1, fun y hy hyc hl => ?_, h3⟩
    rcases hall y hy hyc hl with h4 | rfl
    · exact h4
    · exact ht
  · rw [if_neg ht]
    refine ⟨by omega, hr, fun y hy hyc hl => ?_, .inr ⟨e, he, hec, rfl⟩⟩
    rcases hall y hy hyc hl with h4 | rfl
    · omega
    · exact Int.le_refl _

theorem SeenI.done {es : List Ent} {c : ByteArray} {left : Lit → Bool} {m : Int} (h : SeenI es c left m) (hl : ∀ z, left z = false) : IsNw es c m := ⟨h.1, fun e he hc => h.2.2.1 e he hc (hl _), h.2.2.2⟩

theorem below_grownS {B : Nat} {w0 w w' : World} (h : Below B w0 w) {r : Nat} (hg : w.grownBy w' (some r)) (hr : B ≤ r) (hB : B ≤ w.heap.size) : Below B w0 w' :=
  h.trans ⟨hg.os, hg.tape, hg.output, hg.size, fun k hk => hg.block k (by omega) (fun e => by have := Option.some.inj e; omega)⟩
theorem below_grown0 {B : Nat} {w0 w w' : World} (h : Below B w0 w) (hg : w.grownBy w' none) (hB : B ≤ w.heap.size) : Below B w0 w' :=
  h.trans ⟨hg.os, hg.tape, hg.output, hg.size, fun k hk => hg.block k (by omega) (by simp)⟩
theorem RangeIs.grown {w w' : World} {b r n : Nat} {K : TypeId} {f : Lit → Option Value} {left : Lit → Bool} {cn : Nat} (h : RangeIs w b K r f n left cn) {q : Option Nat} (hg : w.grownBy w' q) (h1 : some b ≠ q) (h2 : some r ≠ q) : RangeIs w' b K r f n left cn :=
  h.kept (hg.block _ h.owns.lt h1) (hg.block _ h.lt h2)

/-- The outer loop's state. -/
def StO (w : World) (bk : Nat) (fk : Lit → Option Value) (es : List Ent) (hs : List Hold) (vo va vf : Value) (wr : World) : Prop :=
  ∃ o m first left cn, vo = .string o ∧ va = .int .u64 m ∧ vf = .bool first ∧ 0 ≤ m ∧ m ≤ 18446744073709551615 ∧ Below w.heap.size w wr ∧ RangeIs wr bk 9 w.heap.size fk hs.length left cn ∧ SeenO es hs left o m first ∧ ∀ kl, left kl = true → (fk kl).isSome

/-- The inner loop's. -/
def StI (w : World) (bk : Nat) (fk : Lit → Option Value) (es : List Ent) (n : Nat) (left : Lit → Bool) (cn : Nat) (c : ByteArray) (b r : Nat) (fi : Lit → Option Value) (vn : Value) (wr : World) : Prop :=
  ∃ m left2 cn2, vn = .int .u64 m ∧ Below w.heap.size w wr ∧ RangeIs wr bk 9 w.heap.size fk n left cn ∧ RangeIs wr b 31 r fi (cnt es c) left2 cn2 ∧ SeenI es c left2 m ∧ ∀ kl, left2 kl = true → (fi kl).isSome

set_option maxHeartbeats 4000000 in
set_option maxRecDepth 100000 in
/-- (*Replies).oldest. -/
theorem oldest_any {rb : Nat} {S Vb : Nat → Prop} {es : List Ent} {hs : List Hold} {B : Int} {N bk bf : Nat} {blk : ByteArray → Nat} (w : World) (hne : hs ≠ []) (hnd : NodE es) (hidx : ∀ e ∈ es, 0 ≤ e.idx ∧ e.idx ≤ 18446744073709551615)
    (h : Rep w rb S Vb es hs B N bk bf blk) :
    Calls Try.prog 49 #[.pointer (some ⟨rb, 0, none⟩)] w fun e w' => RetO es hs e ∧ Below w.heap.size w w' := by
  have h0 := h.cell0
  have hlt := h.ltR
  have hKlt := h.ltK
  obtain ⟨fk, hmk, hfk⟩ := h.kept
  have HR := hide h
  have HMK := hide hmk
  have HFK := hide hfk
  have HND := hide hnd
  have HID := hide hidx
  have HNE := hide hne
  clear h hmk hfk hnd hidx hne
  go_enter Try.func49, Try.ntmps49
  go_wp2_with (at_range; refine wpList_rangeIs rfl _ 61 rfl HMK.out kl9 Try.underlying61 rfl ?_; intro w3 hr3 hg3 hz3; have HG3 := hide hr3; have HB3 : Hid (Below w.heap.size w w3) := below_grown0 (Below.refl _ w) hg3 (Nat.le_refl _); clear hr3 hg3)
  simp only [Act.put, List.setIfInBounds_toArray, List.set_cons_succ, List.set_cons_zero]
  go_loopw [3, 4, 5] (fun vo va vf wr => Hid (StO w bk fk es hs vo va vf wr)) (fun _ _ _ wr => wr.rangeLeft bk w.heap.size)
  case atStart =>
    refine ⟨_, 0, true, _, _, rfl, rfl, rfl, Int.le_refl _, by omega, HB3.out, HG3.out, .inl ⟨rfl, fun x hx => ?_⟩, fun _ h => h⟩
    show (fk (sk x)).isSome = true
    rw [HFK.out x, hx]
    rfl
  case round =>
    obtain ⟨o, m, first, left, cn, rfl, rfl, rfl, hm0, hm1, hB, hG, hS, hlf⟩ := hrel.out
    have HB := hide hB
    have HG := hide hG
    have HS := hide hS
    have Hlf := hide hlf
    have hcn := hG.left_eq
    have hsz := hB.size
    have HINV : Hid (∀ (x : ByteArray) (kl : Lit) (v : Value), keyOf Try.prog 9 (mkS x) = some kl → fk kl = some v → ∃ b, v = mkM b) := by
      intro x kl v hkey hf
      obtain ⟨c, _, rfl, _⟩ := keyS_inv hkey
      rw [HFK.out] at hf
      split at hf
      · exact ⟨_, (Option.some.inj hf).symm⟩
      · cases hf
    clear hB hG hS hlf hrel
    go_wp2_with (at_next; refine wpList_nextIs rfl _ rfl kl9 mkS mkM (fun key kl hkey => by obtain ⟨x, rfl, _⟩ := keyS_inv hkey; exact ⟨x, rfl⟩) HINV.out Hlf.out rfl HG.out ?_ ?_)
    · intro _ hall
      rcases HS.out with ⟨rfl, h1⟩ | ⟨rfl, h2, h3, h4, h5⟩
      · exfalso
        cases hhs : hs with
        | nil => exact HNE.out hhs
        | cons a r =>
          have := h1 a.c (by rw [hhs]; simp [holdOf])
          rw [hall] at this
          cases this
      · go_wp2
        go_ret
        exact ⟨⟨o, rfl, h3, h2, fun m1 hm1 x hx m' hm' => by rw [hm1.one h4]; exact h5 x hx (hall _) m' hm'⟩, HB.out⟩
    · intro x y kl w' cn' hkey hlk hf hr' hlt' hg hz hen
      obtain ⟨x', hx', rfl, hxs⟩ := keyS_inv hkey
      obtain rfl : x = x' := by simpa [mkS] using hx'
      have hheld : (holdOf hs x).isSome = true := by
        rw [HFK.out] at hf
        split at hf
        · assumption
        · cases hf
      obtain rfl : y = blk x := by
        rw [HFK.out, if_pos hheld] at hf
        simpa [mkM] using hf.symm
      have hB' : Below w.heap.size w w' := below_grownS HB.out hg (Nat.le_refl _) hsz
      obtain ⟨fi, hmi, hfi⟩ := (HR.out.carry hB'.size (fun k _ hk => hB'.block k hk)).inner x hheld
      have hIlt := HR.out.ltI hheld
      have HB' := hide hB'
      have hrl := hr'.lt
      have HR' := hide hr'
      have HMI := hide hmi
      have HFI := hide hfi
      clear hB' hr' hmi hfi hkey hx' hf hlk hg hz
      simp only [mkS, mkM] at hen ⊢
      go_wp2_with (at_range; refine wpList_rangeIs rfl _ 77 rfl HMI.out kl31 Try.underlying77 rfl ?_; intro w4 hr4 hg4 hz4; have HG4 := hide hr4; have HR4 := hide (HR'.out.grown hg4 (by simp) (by simp)); have HB4 : Hid (Below w.heap.size w w4) := below_grown0 HB'.out hg4 (by omega); clear hr4 hg4)
      simp only [Act.put, List.setIfInBounds_toArray, List.set_cons_succ, List.set_cons_zero]
      go_loopw [8] (fun vn wr2 => Hid (StI w bk fk es hs.length (fun z => left z && !z.sameKey (sk x)) cn' x (blk x) w'.heap.size fi vn wr2)) (fun _ wr2 => wr2.rangeLeft (blk x) w'.heap.size)
      case atStart =>
        refine ⟨0, _, _, rfl, HB4.out, HR4.out, HG4.out, ⟨Int.le_refl _, by omega, fun e he hc hl => ?_, .inl rfl⟩, fun _ h => h⟩
        exfalso
        have hfe := findE_of_mem HND.out he
        rw [hc] at hfe
        obtain ⟨z, hz', _⟩ := (HFI.out e.seq).2 e hfe
        have hl' : (fi (ik e.seq)).isSome = false := hl
        rw [hz'] at hl'
        cases hl'
      case round =>
        obtain ⟨m2, left2, cn2, rfl, hB2, hO2, hG2, hS2, hlf2⟩ := hrel.out
        have HB2 := hide hB2
        have HO2 := hide hO2
        have HG2 := hide hG2
        have HS2 := hide hS2
        have Hlf2 := hide hlf2
        have hcn2 := hG2.left_eq
        have hsz2 := hB2.size
        obtain ⟨hm20, hm21, _⟩ := hS2
        have HINV2 : Hid (∀ (x' : Int) (kl : Lit) (v : Value), keyOf Try.prog 31 (mkU x') = some kl → fi kl = some v → ∃ y, v = mkKept y) := by
          intro x' kl v hkey hf
          obtain ⟨x'', _, rfl, _⟩ := Maps.keyOf_int_inv Try.underlying31 hkey
          cases hfe : findE es x x'' with
          | none => rw [show fi (Lit.int IntKind.u64 x'') = none from (HFI.out x'').1 hfe] at hf; cases hf
          | some e =>
            obtain ⟨z, hz', a, cp, rfl, _⟩ := (HFI.out x'').2 e hfe
            rw [show fi (Lit.int IntKind.u64 x'') = _ from hz'] at hf
            cases hf
            exact ⟨(e.idx, a, e.val.length, cp), rfl⟩
        clear hB2 hO2 hG2 hlf2 hrel
        go_wp2_with (at_next; refine wpList_nextIs rfl _ rfl kl31 mkU mkKept (fun key kl hkey => by obtain ⟨x, rfl, _⟩ := Maps.keyOf_int_inv Try.underlying31 hkey; exact ⟨x, rfl⟩) HINV2.out Hlf2.out rfl HG2.out ?_ ?_)
        · intro _ hall
          have HNW := hide (HS2.out.done hall)
          by_cases htk : first = true ∨ m2 < m
          · have HS3 := hide (HS.out.take hheld hxs HNW.out htk)
            by_cases hf : first = true
            · subst hf
              go_wp2
              go_roundw
              case rel => exact ⟨x, m2, false, _, cn', rfl, rfl, rfl, hm20, hm21, HB2.out, HO2.out, HS3.out, fun kl h => Hlf.out kl (by simp only [Bool.and_eq_true] at h; exact h.1)⟩
              case measure => have := HO2.out.left_eq; omega
            · obtain rfl : first = false := by simpa using hf
              have hlt2 : m2 < m := by simpa using htk
              go_wp2
              go_roundw
              case rel => exact ⟨x, m2, false, _, cn', rfl, rfl, rfl, hm20, hm21, HB2.out, HO2.out, HS3.out, fun kl h => Hlf.out kl (by simp only [Bool.and_eq_true] at h; exact h.1)⟩
              case measure => have := HO2.out.left_eq; omega
          · obtain rfl : first = false := by cases first <;> simp_all
            have hlt2 : ¬ m2 < m := fun h => htk (.inr h)
            have HS3 := hide (HS.out.pass HNW.out hlt2)
            go_wp2
            go_roundw
            case rel => exact ⟨o, m, false, _, cn', rfl, rfl, rfl, hm0, hm1, HB2.out, HO2.out, HS3.out, fun kl h => Hlf.out kl (by simp only [Bool.and_eq_true] at h; exact h.1)⟩
            case measure => have := HO2.out.left_eq; omega
        · intro x' i a n cp kl w5 cn5 hkey hlk hf hr5 hlt5 hg5 hz5 hen5
          obtain ⟨x'', hx', rfl, hwf⟩ := Maps.keyOf_int_inv Try.underlying31 hkey
          obtain rfl : x' = x'' := by simpa [mkU] using hx'
          obtain ⟨e, hfe, he1⟩ : ∃ e, findE es x x' = some e ∧ e.idx = i := by
            cases hfe : findE es x x' with
            | none => rw [show fi (Lit.int IntKind.u64 x') = none from (HFI.out x').1 hfe] at hf; cases hf
            | some e =>
              obtain ⟨z, hz', a', cp', rfl, _⟩ := (HFI.out x').2 e hfe
              rw [show fi (Lit.int IntKind.u64 x') = _ from hz'] at hf
              simp [mkKept] at hf
              exact ⟨e, rfl, hf.1⟩
          subst he1
          have hid := HID.out e (findE_some hfe).1
          have HR5 := hide hr5
          have HO5 := hide (HO2.out.grown hg5 (by simp; omega) (by simp; omega))
          have HB5 := hide (below_grownS HB2.out hg5 (by omega) hsz2)
          have HS5 := hide (HS2.out.take HND.out hfe hid.2)
          clear hkey hlk hf hr5 hg5 hx' hwf hz5
          simp only [mkU, mkKept] at hen5 ⊢
          by_cases hle : e.idx ≤ m2
          · have hmx : max m2 e.idx = m2 := by omega
            go_wp2
            go_roundw
            case rel =>
              refine ⟨_, _, cn5, rfl, HB5.out.alloc HB5.out.size _, HO5.out.alloc _, HR5.out.alloc _, ?_, fun kl h => Hlf2.out kl (by simp only [Bool.and_eq_true] at h; exact h.1)⟩
              have := HS5.out
              rw [if_pos hle] at this
              exact this
            case measure =>
              have := (HR5.out.alloc (.cells #[.int .u64 e.idx, .slice a n cp] 47)).left_eq
              omega
          · have hmx : max m2 e.idx = e.idx := by omega
            go_wp2
            go_roundw
            case rel =>
              refine ⟨_, _, cn5, rfl, HB5.out.alloc HB5.out.size _, HO5.out.alloc _, HR5.out.alloc _, ?_, fun kl h => Hlf2.out kl (by simp only [Bool.and_eq_true] at h; exact h.1)⟩
              have := HS5.out
              rw [if_neg (by omega)] at this
              exact this
            case measure =>
              have := (HR5.out.alloc (.cells #[.int .u64 e.idx, .slice a n cp] 47)).left_eq
              omega
end Go.Proofs.Qxb6617896a
