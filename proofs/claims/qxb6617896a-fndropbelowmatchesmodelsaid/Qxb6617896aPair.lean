import Derived.Test.Qxb6617896aTwo
import Derived.Test.Qxb6617896aPlay
namespace Go.Proofs.Qxb6617896a
open Go.ChangeShapes Go.WideShapes Go.ChangeAt Go.RowKit

/-- ZZDropBelow. -/
theorem zzDropG {rb : Nat} {S Vb : Nat → Prop} {es : List Ent} {hs : List Hold} {N L : Nat} (c : ByteArray) (low : Int) (w : World) (hc : c.size ≤ maxLen) (hl0 : 0 ≤ low) (hl1 : low ≤ 18446744073709551615) (g : GoodD es hs L) (hL : L < 1000000)
    (hd : ∀ k, Vb k → ¬ S k) (hup : ∀ k, w.heap.size ≤ k → S k) (hN : N < 1000000) (h : RepX w rb S Vb es hs N) :
    Calls Try.prog 24 #[.pointer (some ⟨rb, 0, none⟩), .string c, .int .u64 low] w fun e w' => RetD w rb S Vb (dropE es c low) (dropH hs c low) (N + 1) e w' := by
  have H := hide h
  have HD := hide hd
  have HU := hide hup
  have G := hide g
  clear h hd hup g
  go_enter Try.func24, Try.ntmps24
  go_wp2_with fail
  have hlen := G.out.len
  have helen := G.out.elen
  refine (dropBelow_any c low w hc hl0 hl1 (fun h0 e he hce => ?_) (by omega) HD.out HU.out G.out.nodE (G.out.fr c).1 (G.out.fr c).2 (fun e he hce => ?_) G.out.byt hN (by omega) H.out).mono ?_
  · have := G.out.held e he
    rw [hce, h0] at this
    cases this
  · have := G.out.fl e he
    rw [hce] at this
    exact this
  · rintro e w' ⟨rfl, bk, bf, blk, hR, hT, hK⟩
    go_wp2
    go_end0
    exact ⟨rfl, bk, bf, blk, hR, hT, hK⟩

/-- A block of bytes that is none of the first Replies'. -/
def Vo (w6 : World) (B1 B2 : Nat) (q : Nat) : Prop := q < B2 ∧ q ≠ B1 ∧ ∃ o x, w6.cell? ⟨q, o, none⟩ = some (.int .u8 x)

/-- Behind both plays. -/
structure A5 (w0 w6 : World) (B1 B2 : Nat) (es : List Ent) (hs : List Hold) (N : Nat) : Prop where
  b0 : Below w0.heap.size w0 w6
  z0 : w0.heap.size ≤ B1
  z1 : B1 < B2
  z2 : B2 < w6.heap.size
  r1 : RepX w6 B1 (fun q => B1 ≤ q ∧ q < B2) (fun q => q < B1) es hs N
  r2 : RepX w6 B2 (fun q => B2 ≤ q ∧ q < w6.heap.size) (Vo w6 B1 B2) es hs N

theorem A5.mk' {w0 w3 w4 w5 w6 : World} {n : Nat} {T : Nat → Stp} {es es' : List Ent} {hs hs' : List Hold} {N : Nat} (h0 : Below w0.heap.size w0 w3) (h1 : AtP w3 w4 w3.heap.size n T es hs N) (h2 : Below w4.heap.size w4 w5) (h3 : AtP w5 w6 w5.heap.size n T es' hs' N)
    (ok : ∀ i, i < n → StpOk (T i)) (hinc : ∀ k, k < n → ∀ j, j < k → (T j).idx < (T k).idx) : es' = es ∧ hs' = hs ∧ A5 w0 w6 w3.heap.size w5.heap.size es hs N := by
  obtain ⟨rfl, rfl⟩ := Plays.det ok hinc h3.2.2.1 h1.2.2.1
  obtain ⟨x1, _, _, b1⟩ := h1
  obtain ⟨x3, _, _, b3⟩ := h3
  have l1 := x1.ltR
  have l3 := x3.ltR
  have s2 := h2.size
  have y1 : RepX w6 w3.heap.size (fun q => w3.heap.size ≤ q ∧ q < w5.heap.size) (fun q => q < w3.heap.size) es' hs' N :=
    ((x1.below h2).re (S' := fun q => w3.heap.size ≤ q ∧ q < w5.heap.size) (Vb' := fun q => q < w3.heap.size) (fun k h h' => ⟨h, h'⟩) (fun k _ _ h _ => h)).below b3
  exact ⟨rfl, rfl, ((h0.trans (b1.mono h0.size)).trans (h2.mono (by have := h0.size; omega))).trans (b3.mono (by have := h0.size; omega)), h0.size, by omega, l3, y1,
    x3.re (fun k h h' => ⟨h, h'⟩) (fun k o x h hc => ⟨h, fun e => by subst e; exact y1.no_u8 _ _ hc, o, x, hc⟩)⟩

/-- The drops: Z: where the row of what was held lies; Z2: where what the drops make begins. -/
structure P5 (w0 w6 w : World) (B1 B2 Z2 n : Nat) (H : Nat → Bool) (es1 : List Ent) (hs1 : List Hold) (N1 : Nat) (es2 : List Ent) (hs2 : List Hold) (N2 : Nat) : Prop where
  b0 : Below w0.heap.size w0 w
  z0 : w0.heap.size ≤ B1
  z1 : B1 < B2
  z2 : B2 < w6.heap.size
  z3 : w6.heap.size < Z2
  z4 : Z2 ≤ w.heap.size
  r1 : RepX w B1 (fun q => (B1 ≤ q ∧ q < B2) ∨ Z2 ≤ q) (fun q => q < B1) es1 hs1 N1
  r2 : RepX w B2 (fun q => B2 ≤ q ∧ q < w6.heap.size) (Vo w6 B1 B2) es2 hs2 N2
  vo : ∀ k, Vo w6 B1 B2 k → ∃ o v, w.cell? ⟨k, o, none⟩ = some v
  row : w.rowIs w6.heap.size 4 n (fun p => .bool (H p))

theorem A5.p5 {w0 w6 w : World} {B1 B2 : Nat} {es : List Ent} {hs : List Hold} {N n : Nat} {H : Nat → Bool} (h : A5 w0 w6 B1 B2 es hs N) (hb : Below w6.heap.size w6 w) (hr : w.rowIs w6.heap.size 4 n (fun p => .bool (H p))) : P5 w0 w6 w B1 B2 w.heap.size n H es hs N es hs N := by
  have hz := h.b0.size
  refine ⟨h.b0.trans (hb.mono hz), h.z0, h.z1, h.z2, hr.lt, Nat.le_refl _, (h.r1.below hb).re (fun k h1 _ => .inl h1) (fun k _ _ h1 _ => h1), h.r2.below hb, fun k hk => ?_, hr⟩
  obtain ⟨h1, _, o, x, hc⟩ := hk
  exact ⟨o, _, (hb.cell (p := ⟨k, o, none⟩) (cell_lt hc)).trans hc⟩

theorem P5.tw {w0 w6 w w' : World} {B1 B2 Z2 n : Nat} {H : Nat → Bool} {es1 es1' : List Ent} {hs1 hs1' : List Hold} {N1 N1' : Nat} {es2 : List Ent} {hs2 : List Hold} {N2 : Nat} (h : P5 w0 w6 w B1 B2 Z2 n H es1 hs1 N1 es2 hs2 N2)
    (hr : RepX w' B1 (fun q => (B1 ≤ q ∧ q < B2) ∨ Z2 ≤ q) (fun q => q < B1) es1' hs1' N1') (hT : Tch (fun q => (B1 ≤ q ∧ q < B2) ∨ Z2 ≤ q) w w') (hK : KeepC B1 w w') : P5 w0 w6 w' B1 B2 Z2 n H es1' hs1' N1' es2 hs2 N2 := by
  have z0 := h.z0
  have z1 := h.z1
  have z2 := h.z2
  have z3 := h.z3
  have z4 := h.z4
  refine ⟨h.b0.trans (hT.below (fun k hk h' => by omega)), z0, z1, z2, z3, Nat.le_trans z4 hT.size, hr, h.r2.carry hT.size (fun k hk hl => ?_), fun k hk => ?_, h.row.of_block (hT.block _ (by omega))⟩
  · rcases hk with hk | hk
    · exact hT.block k (by omega)
    · exact hK k hk.2.1 (h.vo k hk)
  · obtain ⟨o, v, hc⟩ := h.vo k hk
    exact ⟨o, v, hK.cell hk.2.1 hc⟩

/-- Behind all drops. -/
structure F5 (w0 w : World) (B1 B2 Z n : Nat) (H : Nat → Bool) (S1 V1 S2 V2 : Nat → Prop) (es : List Ent) (hs : List Hold) (N1 N2 : Nat) : Prop where
  b0 : Below w0.heap.size w0 w
  r1 : RepX w B1 S1 V1 es hs N1
  r2 : RepX w B2 S2 V2 es hs N2
  row : ∀ p, p < n → w.cell? ⟨Z, p, none⟩ = some (.bool (H p))

theorem F5.grow {w0 w w' : World} {B1 B2 Z n : Nat} {H : Nat → Bool} {S1 V1 S2 V2 : Nat → Prop} {es : List Ent} {hs : List Hold} {N1 N2 : Nat} (h : F5 w0 w B1 B2 Z n H S1 V1 S2 V2 es hs N1 N2) (hb : Below w.heap.size w w') : F5 w0 w' B1 B2 Z n H S1 V1 S2 V2 es hs N1 N2 :=
  ⟨h.b0.trans (hb.mono h.b0.size), h.r1.below hb, h.r2.below hb, fun p hp => (hb.cell (p := ⟨Z, p, none⟩) (cell_lt (h.row p hp))).trans (h.row p hp)⟩

theorem P5.re2 {w0 w6 w : World} {B1 B2 Z2 n : Nat} {H : Nat → Bool} {es1 : List Ent} {hs1 : List Hold} {N1 : Nat} {es2 : List Ent} {hs2 : List Hold} {N2 : Nat} (h : P5 w0 w6 w B1 B2 Z2 n H es1 hs1 N1 es2 hs2 N2) :
    RepX w B2 (fun q => (B2 ≤ q ∧ q < w6.heap.size) ∨ w.heap.size ≤ q) (Vo w6 B1 B2) es2 hs2 N2 := h.r2.re (fun _ h1 _ => .inl h1) (fun _ _ _ h1 _ => h1)

theorem P5.fin {w0 w6 w w' : World} {B1 B2 Z2 n : Nat} {H : Nat → Bool} {es1 : List Ent} {hs1 : List Hold} {N1 : Nat} {es2 : List Ent} {hs2 : List Hold} {N2 N2' : Nat} (h : P5 w0 w6 w B1 B2 Z2 n H es1 hs1 N1 es2 hs2 N2)
    (hr : RepX w' B2 (fun q => (B2 ≤ q ∧ q < w6.heap.size) ∨ w.heap.size ≤ q) (Vo w6 B1 B2) es1 hs1 N2') (hT : Tch (fun q => (B2 ≤ q ∧ q < w6.heap.size) ∨ w.heap.size ≤ q) w w') :
    F5 w0 w' B1 B2 w6.heap.size n H (fun q => (B1 ≤ q ∧ q < B2) ∨ Z2 ≤ q) (fun q => q < B1) (fun q => (B2 ≤ q ∧ q < w6.heap.size) ∨ w.heap.size ≤ q) (Vo w6 B1 B2) es1 hs1 N1 N2' := by
  have z0 := h.z0
  have z1 := h.z1
  have z2 := h.z2
  have z3 := h.z3
  have z4 := h.z4
  refine ⟨h.b0.trans (hT.below (fun k hk h' => by omega)), h.r1.carry hT.size (fun k hk hl => hT.block k ?_), hr, fun p hp => (h.row.of_block (hT.block _ (by omega))).cell hp⟩
  rcases hk with hk | hk
  · omega
  · omega
end Go.Proofs.Qxb6617896a
