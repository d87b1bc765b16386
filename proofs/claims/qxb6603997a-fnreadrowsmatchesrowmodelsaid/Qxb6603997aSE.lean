import Derived.Test.Qxb6603997aRZU
import Derived.Test.Qxb6603997aRW
import Derived.Test.Qxb6603997aSD
namespace Go.Proofs.Qxb6603997a
open Go.RowKit

theorem zread_any (h hd : Hd) (T : Nat → Tok) (I : Nat → Int) (i bi m : Nat) (R0 : Nat → RowD) (v0 : Value) (own0 : Option Nat) (w0 w : World) (ht : ToksAt w0 h T) (hi : IntsAt w0 hd I) (hn : h.n ≤ 1048576) (hm : m ≤ 1048576)
    (hok : h.n ≤ h.cap ∧ h.cap ≤ maxLen) (hdk : h.n ≤ hd.n ∧ hd.n ≤ hd.cap ∧ hd.cap ≤ maxLen) (hbi0 : bi = w0.heap.size) (hb0 : Below w0.heap.size w0 w) (hbi : bi < w.heap.size) (hst : RdSt w w bi m T I R0 v0 [] own0 v0 R0) :
    Calls Try.prog 18 #[.pointer (some ⟨bi, 0, none⟩), h.val, hd.val, .int .i64 i] w fun e w' => RdAns w w' bi m T I R0 v0 (rd T h.n (h.n + 1) i).1 (rd T h.n (h.n + 1) i).2 e := by
  have H := hid3 (readRows_any h hd T I i bi m R0 v0 own0 w0 w ht hi hn hm hok hdk hbi0 hb0 hbi hst)
  clear ht hi hok hdk hbi0 hb0 hst
  unfold Hd.val at H
  unfold Hd.val
  go_enter Try.func18, Try.ntmps18
  go_wp2_with (go_at_call 33; refine H.out.mono ?_; rintro e w' ⟨rfl, hx⟩)
  go_ret
  exact ⟨rfl, hx⟩

/-- A list of strings and its copy. -/
structure SEq (wx : World) (j f : Hd) (S : Nat → ByteArray) : Prop where
  tj : StrsAt wx j S
  tf : StrsAt wx f S
  kj : j.ok
  kf : f.ok
  n : j.n = f.n
  nil : j.a = none ↔ f.a = none
  le : f.n ≤ 1048576
theorem SEq.below {wx wy : World} {j f : Hd} {S : Nat → ByteArray} (h : SEq wx j f S) (hb : Below wx.heap.size wx wy) : SEq wy j f S := ⟨h.tj.below hb, h.tf.below hb, h.kj, h.kf, h.n, h.nil, h.le⟩

/-- Where the law stands behind readRows and the model. -/
structure LawSt (w wx : World) (j0 j1 j5 j6 j7 j8 j9 f5 f6 f7 f8 f9 : Hd) (T : Nat → Tok) (I : Nat → Int) (C U X : Nat → ByteArray) (R1 R3 : Nat → RowD) (S1 S2 : Nat → SetD) (sc nm : ByteArray) (bi : Nat) (ps : List (Nat × Nat)) (v25 v26 : Value) : Prop where
  bel : Below w.heap.size w wx
  t0 : ToksAt wx j0 T
  n0 : j0.n ≤ 1048576
  t1 : IntsAt wx j1 I
  n1 : j0.n ≤ j1.n
  s5 : SEq wx j5 f5 C
  s8 : SEq wx j8 f8 U
  s9 : SEq wx j9 f9 X
  t7 : SetAt wx j7 S1
  p7 : SetAt wx f7 S2
  e7 : Sm f7 j7
  l7 : f7.n ≤ 1048576
  i7 : ∀ k, k < f7.n → (S1 k).s = (S2 k).s ∧ (S1 k).T = (S2 k).T ∧ Sm (S2 k).v (S1 k).v ∧ (S2 k).v.n ≤ 1048576
  t6 : RowsAt wx j6 R1
  l6 : j6.n ≤ 1048576
  p6 : RowsAt wx f6 R3
  m6 : f6.n = j6.n + ps.length
  z6 : f6.a = none ↔ (j6.a = none ∧ ps.length = 0)
  i6 : ∀ k, k < j6.n → (R3 k).p = (R1 k).p ∧ (R3 k).e = (R1 k).e ∧ (R1 k).T = (R3 k).T ∧ Sm (R3 k).v (R1 k).v ∧ (R3 k).v.n ≤ 1048576 ∧ ∀ j, j < (R3 k).v.n → Sm ((R3 k).H j) ((R1 k).H j) ∧ ((R3 k).H j).n ≤ 1048576
  w6 : ∀ k, k < ps.length → RowOK wx (fun _ => True) T I (ps.getD k (0, 0)) (R3 (j6.n + k))
  c0 : wx.cell? ⟨bi, 0, none⟩ = some (.string sc)
  c1 : wx.cell? ⟨bi, 1, none⟩ = some (.string nm)
  c2 : wx.cell? ⟨bi, 2, none⟩ = some f5.val
  c3 : wx.cell? ⟨bi, 3, none⟩ = some f6.val
  c4 : wx.cell? ⟨bi, 4, none⟩ = some f7.val
  c5 : wx.cell? ⟨bi, 5, none⟩ = some f8.val
  c6 : wx.cell? ⟨bi, 6, none⟩ = some f9.val
  pi : ∀ p, p ∈ ps → p.1 < p.2 ∧ p.2 < j0.n
  pl : ps.length ≤ j0.n
  o25 : ∃ B, wx.ownsRow B 3 1 v25 ps.length (os1 ps)
  o26 : ∃ B, wx.ownsRow B 3 1 v26 ps.length (cs1 ps)

theorem LawSt.below {w wx wy : World} {j0 j1 j5 j6 j7 j8 j9 f5 f6 f7 f8 f9 : Hd} {T : Nat → Tok} {I : Nat → Int} {C U X : Nat → ByteArray} {R1 R3 : Nat → RowD} {S1 S2 : Nat → SetD} {sc nm : ByteArray} {bi : Nat} {ps : List (Nat × Nat)} {v25 v26 : Value}
    (h : LawSt w wx j0 j1 j5 j6 j7 j8 j9 f5 f6 f7 f8 f9 T I C U X R1 R3 S1 S2 sc nm bi ps v25 v26) (hb : Below wx.heap.size wx wy) : LawSt w wy j0 j1 j5 j6 j7 j8 j9 f5 f6 f7 f8 f9 T I C U X R1 R3 S1 S2 sc nm bi ps v25 v26 := by
  obtain ⟨B5, g5⟩ := h.o25
  obtain ⟨B6, g6⟩ := h.o26
  exact ⟨h.bel.trans (hb.mono h.bel.size), h.t0.below hb, h.n0, h.t1.below hb, h.n1, h.s5.below hb, h.s8.below hb, h.s9.below hb, h.t7.below hb, h.p7.below hb, h.e7, h.l7, h.i7, h.t6.below hb, h.l6, h.p6.below hb, h.m6, h.z6, h.i6,
    fun k hk => (h.w6 k hk).keep (fun j hj _ => hb.block j hj) (fun _ _ => trivial),
    cell_b hb h.c0, cell_b hb h.c1, cell_b hb h.c2, cell_b hb h.c3, cell_b hb h.c4, cell_b hb h.c5, cell_b hb h.c6, h.pi, h.pl,
    ⟨B5, ownsRow_of_block g5 fun g hg => hb.block g (g5.lt g hg).2⟩, ⟨B6, ownsRow_of_block g6 fun g hg => hb.block g (g6.lt g hg).2⟩⟩
end Go.Proofs.Qxb6603997a
