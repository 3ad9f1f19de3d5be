import Derived.Test.Qxb6617896aEvict
namespace Go.Proofs.Qxb6617896a
open Go.ChangeShapes Go.WideShapes Go.ChangeAt Go.RowKit
open Go.Maps (Keyed)

theorem RepX.below {w w' : World} {rb : Nat} {S Vb : Nat → Prop} {es : List Ent} {hs : List Hold} {N : Nat} (h : RepX w rb S Vb es hs N) (hb : Below w.heap.size w w') : RepX w' rb S Vb es hs N := by
  rcases h with ⟨h1, h2, h3, h4⟩ | ⟨bk, bf, blk, h⟩
  · exact .inl ⟨(hb.block rb (Array.getElem?_eq_some_iff.1 h1).1).trans h1, h2, h3, h4⟩
  · exact .inr ⟨bk, bf, blk, h.below hb⟩
theorem RepX.ltR {w : World} {rb : Nat} {S Vb : Nat → Prop} {es : List Ent} {hs : List Hold} {N : Nat} (h : RepX w rb S Vb es hs N) : rb < w.heap.size := by
  rcases h with ⟨h1, h2, h3, h4⟩ | ⟨bk, bf, blk, h⟩
  · exact (Array.getElem?_eq_some_iff.1 h1).1
  · exact h.ltR

theorem KeepC.alloc (rb : Nat) (w : World) (o : Obj) : KeepC rb w (w.alloc o) := KeepC.of_below ⟨rfl, rfl, rfl, by simp, fun k hk => Below.heap_alloc _ _ _ hk⟩

theorem Rep.castB {w : World} {rb : Nat} {S Vb : Nat → Prop} {es : List Ent} {hs : List Hold} {B B' : Int} {N bk bf : Nat} {blk : ByteArray → Nat} (h : Rep w rb S Vb es hs B N bk bf blk) (e : B' = B) : Rep w rb S Vb es hs B' N bk bf blk := by
  subst e
  exact h

theorem held_dropH (hs : List Hold) (c : ByteArray) (low : Int) : (holdOf (dropH hs c low) c).isSome = true := by
  unfold dropH
  split
  · rw [held_setFl]; exact held_holdH hs c
  · exact held_holdH hs c

/-- Behind Keep and the floor's min. -/
def es2F (es : List Ent) (c : ByteArray) (s low i : Int) (v : List Int) : List Ent := putE (dropE es c low) c s i v
def hs2F (hs : List Hold) (c : ByteArray) (s low i : Int) : List Hold := setLast (setFl (dropH hs c low) c (if s < floorOf (dropH hs c low) c then s else floorOf (dropH hs c low) c)) c i

/-- Too many coordinators: one goes. -/
def Ev (es : List Ent) (hs : List Hold) (es' : List Ent) (hs' : List Hold) : Prop :=
  (hs.length ≤ 1024 ∧ es' = es ∧ hs' = hs) ∨ (1024 < hs.length ∧ ∃ o, Oldest es hs o ∧ es' = minusE es o ∧ hs' = minusH hs o)

def RetRec (w : World) (rb : Nat) (S Vb : Nat → Prop) (es : List Ent) (hs : List Hold) (N : Nat) (e : Ending) (w' : World) : Prop :=
  ∃ es' hs', Ev es hs es' hs' ∧ RetD w rb S Vb es' hs' N e w'

def m6 : Value → Nat
  | .string _ => 0
  | _ => 1

/-- At the head of the eviction's loop. -/
def StR (w : World) (rb : Nat) (S Vb : Nat → Prop) (es : List Ent) (hs : List Hold) (N bk bf : Nat) (blk : ByteArray → Nat) (v : Value) (wr : World) : Prop :=
  ∃ es' hs', Rep wr rb S Vb es' hs' (bytesE es') N bk bf blk ∧ Tch S w wr ∧ KeepC rb w wr ∧ bytesE es' ≤ 1048576 ∧ ((v = undef ∧ es' = es ∧ hs' = hs) ∨ (∃ o, v = .string o ∧ 1024 < hs.length ∧ hs'.length ≤ 1024 ∧ Oldest es hs o ∧ es' = minusE es o ∧ hs' = minusH hs o))

/-- In the loop that counts the bytes off. -/
def StE (w : World) (rb : Nat) (S Vb : Nat → Prop) (es : List Ent) (hs : List Hold) (N bk bf : Nat) (blk : ByteArray → Nat) (o : ByteArray) (r : Nat) (fi : Lit → Option Value) (wr : World) : Prop :=
  ∃ left cn, Rep wr rb S Vb es hs (bytesE (es.filter fun e => !decide (e.c = o) || left (ik e.seq))) N bk bf blk ∧ Tch S w wr ∧ KeepC rb w wr ∧ RangeIs wr (blk o) 31 r fi (cnt es o) left cn ∧ ∀ kl, left kl = true → (fi kl).isSome

/-- One more byte count is taken off. -/
theorem leftB {es : List Ent} (hn : NodE es) {o : ByteArray} {x : Int} {e : Ent} {left : Lit → Bool} (hfe : findE es o x = some e) (hl : left (ik x) = true) :
    bytesE (es.filter fun y => !decide (y.c = o) || (left (ik y.seq) && !(ik y.seq).sameKey (ik x))) = bytesE (es.filter fun y => !decide (y.c = o) || left (ik y.seq)) - (e.val.length : Int) ∧ (e.val.length : Int) ≤ bytesE (es.filter fun y => !decide (y.c = o) || left (ik y.seq)) := by
  obtain ⟨he, hec, hes⟩ := findE_some hfe
  have hd : (es.filter fun y => !decide (y.c = o) || (left (ik y.seq) && !(ik y.seq).sameKey (ik x))) = delE (es.filter fun y => !decide (y.c = o) || left (ik y.seq)) o x := by
    unfold delE
    rw [List.filter_filter]
    refine List.filter_congr (fun y _ => ?_)
    rw [ik_same]
    by_cases h1 : y.c = o
    · by_cases h2 : y.seq = x
      · simp [h1, h2]
      · simp [h1, h2]
    · simp [h1]
  have hm : e ∈ es.filter fun y => !decide (y.c = o) || left (ik y.seq) := List.mem_filter.2 ⟨he, by rw [hes, hl]; simp⟩
  have hf := findE_of_mem (hn.filter _) hm
  rw [hec, hes] at hf
  have := (delE_one (hn.filter _) hf).2
  rw [hd]
  exact ⟨by omega, len_le_bytesE hm⟩

theorem length_holdH (hs : List Hold) (c : ByteArray) : (holdH hs c).length ≤ hs.length + 1 := by
  unfold holdH
  split <;> simp
theorem length_dropH (hs : List Hold) (c : ByteArray) (low : Int) : (dropH hs c low).length ≤ hs.length + 1 := by
  unfold dropH
  split
  · rw [length_setFl]; exact length_holdH hs c
  · exact length_holdH hs c
theorem NodH.holdH {hs : List Hold} (h : NodH hs) (c : ByteArray) : NodH (holdH hs c) := by
  unfold Go.Proofs.Qxb6617896a.holdH
  cases hh : holdOf hs c with
  | some _ => exact h
  | none =>
    show NodH (hs ++ [⟨c, 0, 0⟩])
    unfold NodH
    rw [List.pairwise_append]
    refine ⟨h, List.pairwise_singleton _ _, fun a ha b hb => ?_⟩
    rw [List.mem_singleton] at hb
    subst hb
    exact holdOf_none.1 hh a ha
theorem NodH.dropH {hs : List Hold} (h : NodH hs) (c : ByteArray) (low : Int) : NodH (dropH hs c low) := by
  unfold Go.Proofs.Qxb6617896a.dropH
  split
  · exact (h.holdH c).setFl c low
  · exact h.holdH c

set_option maxHeartbeats 4000000 in
set_option maxRecDepth 100000 in
/-- (*Replies).Record. -/
theorem record_any {rb : Nat} {S Vb : Nat → Prop} {es : List Ent} {hs : List Hold} {N : Nat} (c : ByteArray) (s low i : Int) (v : List Int) (a : Option Addr) (cp : Nat) (w : World) (hc : c.size ≤ maxLen) (hs0 : 0 ≤ s) (hs1 : s ≤ 18446744073709551615) (hl0 : 0 ≤ low) (hl1 : low ≤ 18446744073709551615)
    (hi0 : 0 ≤ i) (hi1 : i ≤ 18446744073709551615)
    (hno : holdOf hs c = none → ∀ e ∈ es, e.c ≠ c) (hl : hs.length ≤ 1024) (hd : ∀ k, Vb k → ¬ S k) (hup : ∀ k, w.heap.size ≤ k → S k) (hnod : NodE es) (hnoh : NodH hs) (hidx : ∀ e ∈ es, 0 ≤ e.idx ∧ e.idx ≤ 18446744073709551615)
    (hf0 : 0 ≤ floorOf hs c) (hf1 : floorOf hs c ≤ 18446744073709551615) (hfl : ∀ e ∈ es, e.c = c → floorOf hs c ≤ e.seq) (hby : bytesE es + v.length ≤ 1048576) (hN : N + 2 < 1000000) (hlen : es.length < 999999)
    (hval : SlV w Vb a v.length cp (fun j => .int .u8 (v.getD j 0))) (h : RepX w rb S Vb es hs N) :
    Calls Try.prog 30 #[.pointer (some ⟨rb, 0, none⟩), .int .u64 i, .agg #[.string c, .int .u64 s, .int .u64 low, .slice a v.length cp]] w fun e w' => RetRec w rb S Vb (es2F es c s low i v) (hs2F hs c s low i) (N + 2) e w' := by
  obtain ⟨es3, he3⟩ : ∃ es3, es2F es c s low i v = es3 := ⟨_, rfl⟩
  obtain ⟨hs3, hh3⟩ : ∃ hs3, hs2F hs c s low i = hs3 := ⟨_, rfl⟩
  rw [he3, hh3]
  have hE3 : NodE es3 ∧ bytesE es3 ≤ 1048576 ∧ (∀ e ∈ es3, 0 ≤ e.idx ∧ e.idx ≤ 18446744073709551615) := by
    rw [← he3]
    unfold es2F
    refine ⟨(hnod.filter _).put c s i v, ?_, fun e he => ?_⟩
    · rw [bytesE_put (es := dropE es c low) (hnod.filter _)]
      have : bytesE (dropE es c low) ≤ bytesE es := bytesE_filter_le _ _
      omega
    · rw [putE_eq] at he
      split at he
      · obtain ⟨e0, he0, rfl⟩ := List.mem_map.1 he
        unfold repl
        split
        · exact ⟨hi0, hi1⟩
        · exact hidx e0 (List.mem_filter.1 he0).1
      · rcases List.mem_append.1 he with h' | h'
        · exact hidx e (List.mem_filter.1 h').1
        · rw [List.mem_singleton] at h'; subst h'; exact ⟨hi0, hi1⟩
  have hH3 : NodH hs3 ∧ hs3.length ≤ 1025 ∧ hs3 ≠ [] := by
    rw [← hh3]
    unfold hs2F
    refine ⟨((hnoh.dropH c low).setFl c _).setLast c i, ?_, fun e => ?_⟩
    · rw [length_setLast, length_setFl]
      have := length_dropH hs c low
      omega
    · have h' := held_dropH hs c low
      have e' := congrArg List.length e
      rw [length_setLast, length_setFl] at e'
      rw [show dropH hs c low = [] from List.length_eq_zero_iff.1 e'] at h'
      simp [holdOf] at h'
  obtain ⟨hE31, hE32, hE33⟩ := hE3
  obtain ⟨hH31, hH32, hH33⟩ := hH3
  have HE31 := hide hE31
  have HE33 := hide hE33
  have HH31 := hide hH31
  have HH33 := hide hH33
  clear hE31 hE33 hH31 hH33
  have hlt := h.ltR
  have hb0 := bytesE_nonneg es
  have hb1 : bytesE (dropE es c low) ≤ bytesE es := bytesE_filter_le _ _
  have hl2 : (dropE es c low).length ≤ es.length := List.length_filter_le _ _
  have hnd1 : NodE (dropE es c low) := hnod.filter _
  have HX := hide h
  have HD := hide hd
  have HU := hide hup
  have HVal := hide hval
  have HND := hide hnod
  have HNH := hide hnoh
  have HNO := hide hno
  have HFL := hide hfl
  have HID := hide hidx
  have HND1 := hide hnd1
  clear h hd hup hval hnod hnoh hno hfl hidx hnd1
  go_enter Try.func30, Try.ntmps30
  go_wp2_with fail
  refine (dropBelow_any (S := S) (Vb := Vb) (es := es) (hs := hs) (N := N) c low _ hc hl0 hl1 HNO.out (by omega) HD.out (fun k hk => HU.out k (by simp at hk; omega)) HND.out hf0 hf1 HFL.out (by omega) (by omega) (by omega) (HX.out.below (by go_grown))).mono ?_
  rintro e w1 ⟨rfl, bk, bf, blk, hR1, hT1, hK1⟩
  have hz1 := hT1.size
  have hk0 := hK1.cell (k := w.heap.size) (o := 0) (v := .string c) (by omega) (by simp)
  have hk1 := hK1.cell (k := w.heap.size) (o := 1) (v := .int .u64 s) (by omega) (by simp)
  have hk2 := hK1.cell (k := w.heap.size) (o := 2) (v := .int .u64 low) (by omega) (by simp)
  have hk3 := hK1.cell (k := w.heap.size) (o := 3) (v := .slice a v.length cp) (by omega) (by simp)
  have hkl := cell_lt hk0
  have HV1 : Hid (SlV w1 Vb a v.length cp (fun j => .int .u8 (v.getD j 0))) := HVal.out.carry (Nat.le_trans (by simp) hz1) (fun k hv hl => (hT1.block k (HD.out k hv)).trans (Below.heap_alloc _ _ _ hl))
  have HR1 := hide hR1
  have HT1 : Hid (Tch S w w1) := ((Tch.refl S w).alloc (HU.out _ (Nat.le_refl _)) _).trans hT1
  have HK1 : Hid (KeepC rb w w1) := (KeepC.alloc rb w _).trans hK1
  clear hR1 hT1 hK1
  go_wp2_with fail
  refine (keep_held c s i v a cp w1 hc hs0 hs1 (held_dropH hs c low) HD.out (fun k hk => HU.out k (by omega)) HND1.out (by omega) (by omega) (by omega) HV1.out HR1.out).mono ?_
  rintro e w2 ⟨rfl, bk2, bf2, blk2, hR2, hT2, hK2⟩
  have hz2 := hT2.size
  have hj0 := hK2.cell (by omega) hk0
  have hj1 := hK2.cell (by omega) hk1
  have hj2 := hK2.cell (by omega) hk2
  have hj3 := hK2.cell (by omega) hk3
  have hjl := cell_lt hj0
  have hg2 := hR2.cell2
  have hgl := hR2.ltR
  have HR2 : Hid (Rep w2 rb S Vb (es2F es c s low i v) (dropH hs c low) (bytesE (es2F es c s low i v)) (N + 1) bk2 bf2 blk2) := hR2
  have HT2 := hide (HT1.out.trans hT2)
  have HK2 := hide (HK1.out.trans hK2)
  have hlk := hR2.look (W := w2.drew) hc (by go_grown)
  obtain ⟨ff, nf, hmf, hnf, hff⟩ := hR2.flo
  obtain ⟨fl, hfl⟩ : ∃ fl, floorOf (dropH hs c low) c = fl := ⟨_, rfl⟩
  rw [hfl] at hlk
  obtain ⟨w3, hst, hm3, ht3⟩ := (hmf.below (w' := w2.drew) (by go_grown)).store kl9 Try.underlying62 (by omega) (keyS hc) (.int .u64 (if s < fl then s else fl))
  have HR3 := hide ((((hR2.drewN 1).setFloor HD.out (held_dropH hs c low) hff hnf hm3 ht3)).setLast c i)
  have HT3 := hide (HT2.out.drew.turned ht3 hR2.sF)
  have HK3 : Hid (KeepC rb w w3) := HK2.out.trans (KeepC.turned (w := w2.drew) (hmf.below (w' := w2.drew) (by go_grown)) ht3)
  clear hR2 hT2 hK2 hm3 ht3 hff HR1 HT1 HK1 HV1 hk0 hk1 hk2 hk3 hmf
  go_wp2_with fail
  go_region
  have HR4 : Hid (Rep w3 rb S Vb es3 hs3 (bytesE es3) (N + 2) bk2 bf2 blk2) := by
    rw [← he3, ← hh3]
    unfold hs2F
    rw [hfl]
    exact HR3.out
  have hz3 := HT3.out.size
  clear HR3 HR2 hlk hst hfl hj0 hj1 hj2 hj3 hg2 HT2 HK2 hjl hgl hkl hz1 hz2
  have hsz3 : w.heap.size ≤ w3.heap.size := hz3
  clear hz3
  generalize (if s < fl then s else fl) = mn
  go_wp2_with fail
  go_loopw [6] (fun v wr => Hid (StR w rb S Vb es3 hs3 (N + 2) bk2 bf2 blk2 v wr)) (fun v _ => m6 v)
  case atStart => exact ⟨es3, hs3, HR4.out, HT3.out, HK3.out, hE32, .inl ⟨rfl, rfl, rfl⟩⟩
  case round =>
    clear HR4 HT3 HK3
    obtain ⟨es', hs', hR, hT, hK, hbe, hcase⟩ := hrel.out
    obtain ⟨fk, hmk, hfk⟩ := hR.kept
    have h0 := hR.cell0
    have h1 := hR.cell1
    have HR := hide hR
    have HT := hide hT
    have HK := hide hK
    have HMK := hide hmk
    have HFK := hide hfk
    have HC := hide hcase
    have hbn := bytesE_nonneg es'
    clear hR hT hK hmk hfk hcase hrel
    have hln := fun ty => HMK.out.len Try.underlying61 ty
    by_cases t1 : (1024 : Int) < (hs'.length : Int)
    · rcases HC.out with ⟨rfl, rfl, rfl⟩ | ⟨o, _, _, hle, _⟩
      · clear HC
        go_wp2_with fail
        clear hln
        refine (oldest_any wr HH33.out HE31.out HE33.out HR.out).mono ?_
        rintro e w4 ⟨⟨o, rfl, ho, hold⟩, hB4⟩
        have HOLD := hide hold
        have HR4 := hide (HR.out.below hB4)
        have HT4 := hide (HT.out.trans (Tch.of_below hB4 (fun k hk => HU.out k (Nat.le_trans HT.out.size hk))))
        have HK4 := hide (HK.out.trans (KeepC.of_below hB4))
        obtain ⟨fk4, hmk4, hfk4⟩ := HR4.out.kept
        have g0 := HR4.out.cell0
        have hheld := hold.1
        have HMK4 := hide hmk4
        have HV4 : Hid ((fk4 (sk o)).getD (.map none) = .map (some (blk2 o))) := by unfold Hid; rw [hfk4 o, if_pos hheld]; rfl
        obtain ⟨fi, hmi, hfi⟩ := HR4.out.inner o hheld
        have HMI := hide hmi
        have HFI := hide hfi
        clear hB4 hold hmk4 hfk4 hmi hfi HMK HFK
        go_wp2_with (first | (at_lookup; refine wpList_look rfl _ _ 61 rfl HMK4.out kl9 Try.underlying61 zero77 rfl rfl (keyS ho) _ HV4.out ?_) | (at_range; refine wpList_rangeIs rfl _ 77 rfl HMI.out kl31 Try.underlying77 rfl ?_; intro w5 hr5 hg5 hz5; have HG5 := hide hr5; have HB5 : Hid (Below w4.heap.size w4 w5) := below_grown0 (Below.refl _ w4) hg5 (Nat.le_refl _); clear hr5 hg5))
        have hr4 := HR4.out.ltR
        have hkk4 := HR4.out.ltK
        have hff4 := HR4.out.ltF
        have HI4 : Hid (∀ x, (holdOf hs' x).isSome → blk2 x < w4.heap.size) := fun x hx => HR4.out.ltI hx
        have hzw : w.heap.size ≤ w4.heap.size := HT4.out.size
        have hSt : StE w rb S Vb es' hs' (N + 2) bk2 bf2 blk2 o w4.heap.size fi w5 := by
          refine ⟨_, _, ?_, HT4.out.trans (Tch.of_below HB5.out (fun k hk => HU.out k (by omega))), HK4.out.trans (KeepC.of_below HB5.out), HG5.out, fun _ h => h⟩
          have : (es'.filter fun e => !decide (e.c = o) || (fi (ik e.seq)).isSome) = es' := by
            rw [List.filter_eq_self]
            intro e he
            by_cases hx : e.c = o
            · have hfe := findE_of_mem HE31.out he
              rw [hx] at hfe
              obtain ⟨z, hz, _⟩ := (HFI.out e.seq).2 e hfe
              simp [hz]
            · simp [hx]
          rw [this]
          exact HR4.out.below HB5.out
        have HSt := hide hSt
        clear hSt HG5 HB5 HR HT HK HR4 HT4 HK4 HMI HMK4 HV4 h0 h1 g0 hz5
        simp only [Act.put, List.setIfInBounds_toArray, List.set_cons_succ, List.set_cons_zero]
        go_loopw [8] (fun _ wr => Hid (StE w rb S Vb es' hs' (N + 2) bk2 bf2 blk2 o w4.heap.size fi wr)) (fun _ wr => wr.rangeLeft (blk2 o) w4.heap.size)
        case atStart => exact HSt
        case round =>
          obtain ⟨left, cn, hR, hT, hK, hG, hlf⟩ := hrel.out
          have HR := hide hR
          have HT := hide hT
          have HK := hide hK
          have HG := hide hG
          have Hlf := hide hlf
          have hcn := hG.left_eq
          have HINV : Hid (∀ (x' : Int) (kl : Lit) (v : Value), keyOf Try.prog 31 (mkU x') = some kl → fi kl = some v → ∃ y, v = mkKept y) := by
            intro x' kl v hkey hf
            obtain ⟨x'', _, rfl, _⟩ := Maps.keyOf_int_inv Try.underlying31 hkey
            cases hfe : findE es' o x'' with
            | none => rw [show fi (Lit.int IntKind.u64 x'') = none from (HFI.out x'').1 hfe] at hf; cases hf
            | some e =>
              obtain ⟨z, hz', a, cp, rfl, _⟩ := (HFI.out x'').2 e hfe
              rw [show fi (Lit.int IntKind.u64 x'') = _ from hz'] at hf
              cases hf
              exact ⟨(e.idx, a, e.val.length, cp), rfl⟩
          clear hR hT hK hG hlf hrel
          go_wp2_with (at_next; refine wpList_nextIs rfl _ rfl kl31 mkU mkKept (fun key kl hkey => by obtain ⟨x, rfl, _⟩ := Maps.keyOf_int_inv Try.underlying31 hkey; exact ⟨x, rfl⟩) HINV.out Hlf.out rfl HG.out ?_ ?_)
          · intro _ hall
            have hBm : bytesE (es'.filter fun e => !decide (e.c = o) || left (ik e.seq)) = bytesE (minusE es' o) := by
              congr 1
              unfold minusE
              refine List.filter_congr (fun e _ => ?_)
              rw [hall]
              simp
            have hRm := HR.out
            rw [hBm] at hRm
            obtain ⟨fk7, hmk7, hfk7⟩ := hRm.kept
            obtain ⟨ff7, nf7, hmf7, hnf7, hff7⟩ := hRm.flo
            have g0 := hRm.cell0
            have g2 := hRm.cell2
            have hne1 := map_ne_str hRm hmk7
            have hne2 := map_ne_str hRm hmf7
            have HRm := hide hRm
            have HMK7 := hide hmk7
            have HFK7 := hide hfk7
            have HMF7 := hide hmf7
            have HFF7 := hide hff7
            clear hRm hmk7 hfk7 hmf7 hff7 HR HG Hlf HINV hBm hall
            go_wp2_with (first | (at_delete; refine wpList_drop rfl _ _ 61 9 rfl HMK7.out kl9 Try.underlying61 rfl rfl (keyS ho) ?_; intro w7 hm7 ht7; have g27 : w7.cell? ⟨rb, 2, none⟩ = some (.map (some bf2)) := (World.cell?_of_block (turned_block ht7 (Ne.symm hne1))).trans g2; have HM7 := hide hm7; have HT7 := hide ht7; have HMF8 := hide (HMF7.out.of_block (turned_block ht7 (Ne.symm HRm.out.dKF))); clear hm7 ht7) | (at_delete; refine wpList_drop rfl _ _ 62 9 rfl HMF8.out kl9 Try.underlying62 rfl rfl (keyS ho) ?_; intro w8 hm8 ht8; have HM8 := hide hm8; have HT8 := hide ht8; clear hm8 ht8))
            simp only [Act.put]
            go_roundw
            case rel =>
              refine ⟨minusE es' o, minusH hs' o, HRm.out.evict HD.out HH31.out hheld HFK7.out HFF7.out hnf7 HM7.out HT7.out HM8.out HT8.out, (HT.out.turned HT7.out HRm.out.sK).turned HT8.out HRm.out.sF, (HK.out.trans (KeepC.turned HMK7.out HT7.out)).trans (KeepC.turned HMF8.out HT8.out), Int.le_trans (bytesE_filter_le _ _) hbe, .inr ⟨o, rfl, by omega, ?_, HOLD.out, rfl, rfl⟩⟩
              have := length_minusH HH31.out hheld
              omega
            case measure => show (0 : Nat) < 1; omega
          · intro x' i' a' n' cp' kl w6 cn6 hkey hlk hf hr6 hlt6 hg6 hz6 hen6
            obtain ⟨x'', hx', rfl, hwf⟩ := Maps.keyOf_int_inv Try.underlying31 hkey
            obtain rfl : x' = x'' := by simpa [mkU] using hx'
            obtain ⟨e, hfe, he1, he2⟩ : ∃ e, findE es' o x' = some e ∧ e.idx = i' ∧ e.val.length = n' := by
              cases hfe : findE es' o x' with
              | none => rw [show fi (Lit.int IntKind.u64 x') = none from (HFI.out x').1 hfe] at hf; cases hf
              | some e =>
                obtain ⟨z, hz', a'', cp'', rfl, _⟩ := (HFI.out x').2 e hfe
                rw [show fi (Lit.int IntKind.u64 x') = _ from hz'] at hf
                simp [mkKept] at hf
                exact ⟨e, rfl, hf.1, hf.2.2.1⟩
            subst he1 he2
            have hR6 := HR.out.grown hg6 hr4 hkk4 hff4 HI4.out (fun h => HD.out _ h (HU.out _ hzw))
            obtain ⟨hB2, hB3⟩ := leftB HE31.out hfe hlk
            have hB4 : bytesE (es'.filter fun y => !decide (y.c = o) || left (ik y.seq)) ≤ bytesE es' := bytesE_filter_le _ _
            obtain ⟨B', hB'⟩ : ∃ B', bytesE (es'.filter fun y => !decide (y.c = o) || left (ik y.seq)) = B' := ⟨_, rfl⟩
            rw [hB'] at hR6 hB2 hB3 hB4
            have HR6 := hide hR6
            have HT6 := hide (HT.out.grown hg6 (fun k hk => HU.out k (Nat.le_trans HT.out.size hk)) (HU.out _ hzw))
            have HK6 : Hid (KeepC rb w w6) := fun k hk hc => (hg6.block k (by have := HT.out.size; obtain ⟨_, _, h⟩ := hc; have := cell_lt h; omega) (fun e => by have := Option.some.inj e; obtain ⟨_, _, h⟩ := hc; have := cell_lt h; omega)).trans (HK.out k hk hc)
            have HG6 := hide hr6
            have g1 := hR6.cell1
            have gf := hR6.fz 1
            have grl := hR6.ltR
            have hz7 := HT6.out.size
            clear hkey hlk hf hr6 hg6 hx' hwf hz6 hR6 HR HG HINV HT HK
            simp only [mkU, mkKept] at hen6 ⊢
            go_wp2_with fail
            go_region
            go_wp2
            go_roundw
            case rel =>
              refine ⟨(fun z => left z && !z.sameKey (ik x')), cn6, ?_, ((HT6.out.setCell (p := ⟨rb, 1, none⟩) HR6.out.sR _).alloc (HU.out _ (by simpa [World.setCell] using hz7)) _).drew, ?_, ?_, fun kl h => Hlf.out kl (by simp only [Bool.and_eq_true] at h; exact h.1)⟩
              · have := ((HR6.out.setB HD.out (B' - (e.val.length : Int))).alloc (.cells #[.int .u64 e.idx, .slice a' e.val.length cp'] 47)).drewN 1
                exact this.castB hB2
              · exact fun k hk hc => (blk_same (by obtain ⟨_, _, h⟩ := hc; have := cell_lt h; omega) hk).trans (HK6.out k hk hc)
              · exact HG6.out.kept (blk_same HG6.out.owns.lt (map_ne_str HR6.out HG6.out.owns)) (blk_same HG6.out.lt (by omega))
            case measure =>
              have h1 := HG6.out.kept (w' := ((w6.setCell ⟨rb, 1, none⟩ (.int .i64 (B' - (e.val.length : Int)))).alloc (.cells #[.int .u64 e.idx, .slice a' e.val.length cp'] 47)).drew) (blk_same HG6.out.owns.lt (map_ne_str HR6.out HG6.out.owns)) (blk_same HG6.out.lt (by omega))
              have := h1.left_eq
              omega
      · exfalso
        omega
    · have hend : RetRec w rb S Vb es3 hs3 (N + 2) (.returned (.tuple #[])) wr := by
        rcases HC.out with ⟨_, rfl, rfl⟩ | ⟨o, _, h3, h4, h5, h6, h7⟩
        · exact ⟨es', hs', .inl ⟨by omega, rfl, rfl⟩, rfl, bk2, bf2, blk2, HR.out, HT.out, HK.out⟩
        · exact ⟨es', hs', .inr ⟨h3, o, h5, h6, h7⟩, rfl, bk2, bf2, blk2, HR.out, HT.out, HK.out⟩
      have HEND := hide hend
      clear hend HC
      by_cases t2 : (1 : Int) < (hs'.length : Int)
      · go_wp2
        go_end0
        exact HEND.out
      · go_wp2
        go_end0
        exact HEND.out
end Go.Proofs.Qxb6617896a
