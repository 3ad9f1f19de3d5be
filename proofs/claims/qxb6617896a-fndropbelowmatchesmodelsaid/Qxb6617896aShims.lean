import Derived.Test.Qxb6617896aKeep
namespace Go.Proofs.Qxb6617896a
open Go.ChangeShapes Go.WideShapes Go.ChangeAt Go.RowKit
open Go.Maps (Keyed)

theorem nil61 (c : ByteArray) (w : World) : (Instr.lookup 61 (.map none) (.string c) false).run Try.prog w = .ok (.map none) w := by kernel_rfl
theorem nil61ok (c : ByteArray) (w : World) : (Instr.lookup 61 (.map none) (.string c) true).run Try.prog w = .ok (.tuple #[.map none, .bool false]) w := by kernel_rfl
theorem nil77ok (s : Int) (w : World) : (Instr.lookup 77 (.map none) (.int .u64 s) true).run Try.prog w = .ok (.tuple #[.agg #[.int .u64 0, .slice none 0 0], .bool false]) w := by kernel_rfl
theorem nilLen61 (ty : TypeId) (w : World) : (Builtin.len_ #[61] ty #[.map none]).run Try.prog w = .ok (.int .i64 0) w := by kernel_rfl
theorem nilLen77 (ty : TypeId) (w : World) : (Builtin.len_ #[77] ty #[.map none]).run Try.prog w = .ok (.int .i64 0) w := by kernel_rfl

theorem RepNil.cells {w : World} {rb : Nat} (h : RepNil w rb) : w.cell? ⟨rb, 0, none⟩ = some (.map none) ∧ w.cell? ⟨rb, 1, none⟩ = some (.int .i64 0) ∧ w.cell? ⟨rb, 2, none⟩ = some (.map none) ∧ rb < w.heap.size := by
  have h' : w.heap[rb]? = some (.cells #[.map none, .int .i64 0, .map none] 64 (0, 0)) := h
  exact ⟨by simp [World.cell?, h'], by simp [World.cell?, h'], by simp [World.cell?, h'], (Array.getElem?_eq_some_iff.1 h).1⟩

section
variable {rb : Nat} {S Vb : Nat → Prop} {es : List Ent} {hs : List Hold} {N : Nat}

/-- ZZFloor. -/
theorem zzFloor (c : ByteArray) (w : World) (hc : c.size ≤ maxLen) (h : RepX w rb S Vb es hs N) :
    Calls Try.prog 22 #[.pointer (some ⟨rb, 0, none⟩), .string c] w fun e w' => e = .returned (.int .u64 (floorOf hs c)) ∧ w' = w := by
  rcases h with ⟨h, _, rfl, rfl⟩ | ⟨bk, bf, blk, h⟩
  · obtain ⟨h0, h1, h2, hl⟩ := h.cells
    have hn := nil_look c
    clear h
    go_enter Try.func22, Try.ntmps22
    go_wp2
    go_ret
    exact ⟨rfl, rfl⟩
  · have h2 := h.cell2
    have hl := h.look (W := w) hc (Below.refl _ _)
    clear h
    go_enter Try.func22, Try.ntmps22
    go_wp2
    go_ret
    exact ⟨rfl, rfl⟩

/-- ZZCoordinators. -/
theorem zzCoords (w : World) (h : RepX w rb S Vb es hs N) :
    Calls Try.prog 32 #[.pointer (some ⟨rb, 0, none⟩)] w fun e w' => e = .returned (.int .i64 (hs.length : Int)) ∧ w' = w := by
  rcases h with ⟨h, _, rfl, rfl⟩ | ⟨bk, bf, blk, h⟩
  · obtain ⟨h0, h1, h2, hl⟩ := h.cells
    have hn := nilLen61
    clear h
    go_enter Try.func32, Try.ntmps32
    go_wp2
    go_ret
    exact ⟨rfl, rfl⟩
  · have h0 := h.cell0
    obtain ⟨fk, hm, _⟩ := h.kept
    have hl := fun ty => hm.len Try.underlying61 ty
    clear h hm
    go_enter Try.func32, Try.ntmps32
    go_wp2
    go_ret
    exact ⟨rfl, rfl⟩

/-- ZZBytes. -/
theorem zzBytesOf (w : World) (h : RepX w rb S Vb es hs N) :
    Calls Try.prog 41 #[.pointer (some ⟨rb, 0, none⟩)] w fun e w' => e = .returned (.int .i64 (bytesE es)) ∧ w' = w := by
  rcases h with ⟨h, _, rfl, rfl⟩ | ⟨bk, bf, blk, h⟩
  · obtain ⟨h0, h1, h2, hl⟩ := h.cells
    clear h
    go_enter Try.func41, Try.ntmps41
    go_wp2
    go_ret
    exact ⟨rfl, rfl⟩
  · have h1 := h.cell1
    clear h
    go_enter Try.func41, Try.ntmps41
    go_wp2
    go_ret
    exact ⟨rfl, rfl⟩

/-- ZZHolds. -/
theorem zzHoldsOf (c : ByteArray) (w : World) (hc : c.size ≤ maxLen) (hno : holdOf hs c = none → cnt es c = 0) (h : RepX w rb S Vb es hs N) :
    Calls Try.prog 45 #[.pointer (some ⟨rb, 0, none⟩), .string c] w fun e w' => e = .returned (.tuple #[.int .i64 (cnt es c : Int), .bool (holdOf hs c).isSome]) ∧ w' = w := by
  rcases h with ⟨h, _, rfl, rfl⟩ | ⟨bk, bf, blk, h⟩
  · obtain ⟨h0, h1, h2, hl⟩ := h.cells
    have hn := nilLen77
    have hn2 := nil61ok c
    clear h
    go_enter Try.func45, Try.ntmps45
    go_wp2
    go_ret2
    exact ⟨rfl, rfl⟩
  · have h0 := h.cell0
    obtain ⟨fk, hm, hf⟩ := h.kept
    have hq := hm.look_ok kl9 Try.underlying61 zero77 (keyS hc)
    rw [hf c] at hq
    cases hh : holdOf hs c with
    | none =>
      rw [hh] at hq
      have hq' : (Instr.lookup 61 (.map (some bk)) (.string c) true).run Try.prog w = .ok (.tuple #[.map none, .bool false]) w := hq
      have hn := nilLen77
      have hz := hno hh
      clear hq h hm hf hno hh
      go_enter Try.func45, Try.ntmps45
      go_wp2
      go_ret2
      exact ⟨by rw [hz]; rfl, rfl⟩
    | some h0' =>
      rw [hh] at hq
      have hq' : (Instr.lookup 61 (.map (some bk)) (.string c) true).run Try.prog w = .ok (.tuple #[.map (some (blk c)), .bool true]) w := hq
      obtain ⟨fi, hmi, _⟩ := h.inner c (by rw [hh]; rfl)
      have hl := fun ty => hmi.len Try.underlying77 ty
      clear hq h hm hf hno hmi hh
      go_enter Try.func45, Try.ntmps45
      go_wp2
      go_ret2
      exact ⟨rfl, rfl⟩

/-- What ZZLookup gives. -/
def LookV (w : World) (Vb : Nat → Prop) (x : Option Ent) (e : Ending) : Prop :=
  match x with
  | none => e = .returned (.tuple #[.agg #[.int .u64 0, .slice none 0 0], .bool false])
  | some y => ∃ a cp, e = .returned (.tuple #[.agg #[.int .u64 y.idx, .slice a y.val.length cp], .bool true]) ∧ SlV w Vb a y.val.length cp (fun i => .int .u8 (y.val.getD i 0))

/-- ZZLookup. -/
theorem zzLookupOf (c : ByteArray) (s : Int) (w : World) (hc : c.size ≤ maxLen) (hs0 : 0 ≤ s) (hs1 : s ≤ 18446744073709551615) (hno : holdOf hs c = none → findE es c s = none) (h : RepX w rb S Vb es hs N) :
    Calls Try.prog 23 #[.pointer (some ⟨rb, 0, none⟩), .string c, .int .u64 s] w fun e w' => LookV w Vb (findE es c s) e ∧ Below w.heap.size w w' := by
  rcases h with ⟨h, _, rfl, rfl⟩ | ⟨bk, bf, blk, h⟩
  · obtain ⟨h0, h1, h2, hl⟩ := h.cells
    have hn := nil77ok s
    have hn2 := nil61 c
    clear h
    go_enter Try.func23, Try.ntmps23
    go_wp2
    go_returns
    exact ⟨rfl, by go_grown⟩
  · have h0 := h.cell0
    have hlt := h.ltR
    obtain ⟨W, hW⟩ : ∃ W, W = w.alloc (Obj.cells #[.int .u64 0, .slice none 0 0] 47) := ⟨_, rfl⟩
    have hb : Below w.heap.size w W := by rw [hW]; go_grown
    obtain ⟨fk, hm, hf⟩ := h.kept
    have hq := (hm.below hb).look kl9 Try.underlying61 zero77 (keyS hc)
    rw [hf c] at hq
    cases hh : holdOf hs c with
    | none =>
      rw [hh, hW] at hq
      have hq' : (Instr.lookup 61 (.map (some bk)) (.string c) false).run Try.prog (w.alloc (Obj.cells #[.int .u64 0, .slice none 0 0] 47)) = .ok (.map none) (w.alloc (Obj.cells #[.int .u64 0, .slice none 0 0] 47)) := hq
      have hn := nil77ok s
      have hz := hno hh
      clear hq h hm hf hno hh hW hb
      rw [hz]
      go_enter Try.func23, Try.ntmps23
      go_wp2
      go_returns
      exact ⟨rfl, by go_grown⟩
    | some h0' =>
      rw [hh, hW] at hq
      have hq' : (Instr.lookup 61 (.map (some bk)) (.string c) false).run Try.prog (w.alloc (Obj.cells #[.int .u64 0, .slice none 0 0] 47)) = .ok (.map (some (blk c))) (w.alloc (Obj.cells #[.int .u64 0, .slice none 0 0] 47)) := hq
      obtain ⟨fi, hmi, hfi⟩ := h.inner c (by rw [hh]; rfl)
      have hq2 := (hmi.below hb).look_ok kl31 Try.underlying77 zero47 (keyI hs0 hs1)
      rw [hW] at hq2
      cases hfe : findE es c s with
      | none =>
        rw [(hfi s).1 hfe] at hq2
        have hq3 : (Instr.lookup 77 (.map (some (blk c))) (.int .u64 s) true).run Try.prog (w.alloc (Obj.cells #[.int .u64 0, .slice none 0 0] 47)) = .ok (.tuple #[.agg #[.int .u64 0, .slice none 0 0], .bool false]) (w.alloc (Obj.cells #[.int .u64 0, .slice none 0 0] 47)) := hq2
        clear hq h hm hf hno hh hW hb hmi hfi hq2 hfe
        go_enter Try.func23, Try.ntmps23
        go_wp2
        go_returns
        exact ⟨rfl, by go_grown⟩
      | some e =>
        obtain ⟨x, hx, a, cp, rfl, hsl⟩ := (hfi s).2 e hfe
        rw [hx] at hq2
        have hq3 : (Instr.lookup 77 (.map (some (blk c))) (.int .u64 s) true).run Try.prog (w.alloc (Obj.cells #[.int .u64 0, .slice none 0 0] 47)) = .ok (.tuple #[.agg #[.int .u64 e.idx, .slice a e.val.length cp], .bool true]) (w.alloc (Obj.cells #[.int .u64 0, .slice none 0 0] 47)) := hq2
        have HS := hide hsl
        clear hq h hm hf hno hh hW hb hmi hfi hq2 hfe hsl hx
        go_enter Try.func23, Try.ntmps23
        go_wp2
        go_returns
        exact ⟨⟨a, cp, rfl, HS.out⟩, by go_grown⟩
end
end Go.Proofs.Qxb6617896a
