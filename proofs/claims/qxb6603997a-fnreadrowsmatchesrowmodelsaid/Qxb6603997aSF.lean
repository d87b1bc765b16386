import Derived.Test.Qxb6603997aSE
import Derived.Test.Qxb6603997aRL
namespace Go.Proofs.Qxb6603997a
open Go.RowKit

/-- Where the law stands ahead of readRows. -/
structure Pre (w w0 : World) (j0 jt j1 j5 j6 j7 j8 j9 f5 f f7 f8 f9 : Hd) (T : Nat → Tok) (I : Nat → Int) (C U X : Nat → ByteArray) (R1 R2 : Nat → RowD) (S1 S2 : Nat → SetD) : Prop where
  bel : Below w.heap.size w w0
  t0 : ToksAt w0 j0 T
  n0 : j0.n ≤ 1048576
  tt : ToksAt w0 jt T
  ct : ∃ B, Cp B j0 jt
  t1 : IntsAt w0 j1 I
  k1 : j1.ok
  n1 : j0.n ≤ j1.n
  s5 : SEq w0 j5 f5 C
  s8 : SEq w0 j8 f8 U
  s9 : SEq w0 j9 f9 X
  t7 : SetAt w0 j7 S1
  l7 : j7.n ≤ 1048576
  e7 : SetLe j7 S1
  p7 : SetAt w0 f7 S2
  c7 : ∃ B, Cp B j7 f7 ∧ ∀ k, k < j7.n → SCp B (S1 k) (S2 k)
  t6 : RowsAt w0 j6 R1
  l6 : j6.n ≤ 1048576
  e6 : RowsLe j6 R1
  p6 : RowsAt w0 f R2
  c6 : ∃ B, Cp B j6 f ∧ ∀ k, k < j6.n → RCp B (R1 k) (R2 k)

theorem Cp.sm {B : Nat} {h h' : Hd} (c : Cp B h h') : Sm h' h := ⟨c.n.symm, c.nil.symm⟩

theorem Pre.law {w w0 w1 w2 w3 : World} {j0 jt j1 j5 j6 j7 j8 j9 f5 f f7 f8 f9 : Hd} {T : Nat → Tok} {I : Nat → Int} {C U X : Nat → ByteArray} {R1 R2 R3 : Nat → RowD} {S1 S2 : Nat → SetD} {sc nm : ByteArray} {bi : Nat} {ps : List (Nat × Nat)} {v25 v26 v : Value} {own : Option Nat} {B5 B6 : Nat}
    (h : Pre w w0 j0 jt j1 j5 j6 j7 j8 j9 f5 f f7 f8 f9 T I C U X R1 R2 S1 S2) (hbi : bi = w0.heap.size) (hb1 : Below w0.heap.size w0 w1) (hs1 : bi < w1.heap.size)
    (c0 : w1.cell? ⟨bi, 0, none⟩ = some (.string sc)) (c1 : w1.cell? ⟨bi, 1, none⟩ = some (.string nm)) (c2 : w1.cell? ⟨bi, 2, none⟩ = some f5.val) (c4 : w1.cell? ⟨bi, 4, none⟩ = some f7.val) (c5 : w1.cell? ⟨bi, 5, none⟩ = some f8.val) (c6 : w1.cell? ⟨bi, 6, none⟩ = some f9.val)
    (hrd : RdSt w1 w2 bi f.n T I R2 f.val ps own v R3) (hb3 : Below w2.heap.size w2 w3) (o25 : w3.ownsRow B5 3 1 v25 ps.length (os1 ps)) (o26 : w3.ownsRow B6 3 1 v26 ps.length (cs1 ps)) (hpi : ∀ p, p ∈ ps → p.1 < p.2 ∧ p.2 < j0.n) (hpl : ps.length ≤ j0.n) :
    ∃ f6, LawSt w w3 j0 j1 j5 j6 j7 j8 j9 f5 f6 f7 f8 f9 T I C U X R1 R3 S1 S2 sc nm bi ps v25 v26 := by
  obtain ⟨Bc, c6f, rc⟩ := h.c6
  obtain ⟨Bs, c7f, scp⟩ := h.c7
  have hb2 : Below w0.heap.size w0 w2 := ⟨hrd.os.trans hb1.os, hrd.tape.trans hb1.tape, hrd.output.trans hb1.output, Nat.le_trans hb1.size hrd.size, fun j hj => (hrd.keep j (by omega) (by omega)).trans (hb1.block j hj)⟩
  have hb : Below w0.heap.size w0 w3 := Below.seq hb2 hb3
  have hvals : ∀ k, k < f.n + ps.length → (R3 k).v.ok ∧ ValsAt w2 (R3 k).v (R3 k).H (R3 k).T := by
    intro k hk
    by_cases hlt : k < f.n
    · rw [hrd.old k hlt]
      obtain ⟨-, q1, q2⟩ := h.p6 k hlt
      exact ⟨q1, q2.below hb2⟩
    · have := hrd.new (k - f.n) (by omega)
      rw [show f.n + (k - f.n) = k by omega] at this
      exact ⟨this.ok, this.vals⟩
  obtain ⟨f6, rfl, h6n, h6z, h6r⟩ := rows_of hrd.gro hvals
  have hfn : f.n = j6.n := c6f.n
  have hcell : ∀ o u, o ≠ 3 → w1.cell? ⟨bi, o, none⟩ = some u → w3.cell? ⟨bi, o, none⟩ = some u := fun o u ho hu => cell_b hb3 ((hrd.other o ho).trans hu)
  refine ⟨f6, h.bel.trans (hb.mono h.bel.size), h.t0.below hb, h.n0, h.t1.below hb, h.n1, h.s5.below hb, h.s8.below hb, h.s9.below hb, h.t7.below hb, h.p7.below hb, c7f.sm, by rw [c7f.n]; exact h.l7, ?_, h.t6.below hb, h.l6, h6r.below hb3, by rw [h6n, hfn], ?_, ?_, ?_, hcell 0 _ (by omega) c0, hcell 1 _ (by omega) c1, hcell 2 _ (by omega) c2, cell_b hb3 hrd.cell, hcell 4 _ (by omega) c4, hcell 5 _ (by omega) c5, hcell 6 _ (by omega) c6, hpi, hpl, ⟨B5, o25⟩, ⟨B6, o26⟩⟩
  · intro k hk
    have hk' : k < j7.n := by rw [← c7f.n]; exact hk
    have q := scp k hk'
    exact ⟨q.s.symm, q.T.symm, q.v.sm, by rw [q.v.n]; exact h.e7 k hk'⟩
  · constructor
    · intro e
      have h0 := h6z e
      have hp : ps.length = 0 := by omega
      have hv := hrd.nil hp
      have ha : f6.a = f.a := by
        have := congrArg (fun x => match x with | Value.slice a _ _ => a | _ => none) hv
        exact this
      exact ⟨c6f.nil.1 (by rw [← ha]; exact e), hp⟩
    · rintro ⟨e, hp⟩
      have hv := hrd.nil hp
      have ha : f6.a = f.a := by
        have := congrArg (fun x => match x with | Value.slice a _ _ => a | _ => none) hv
        exact this
      rw [ha]; exact c6f.nil.2 e
  · intro k hk
    rw [hrd.old k (by omega)]
    have q := rc k hk
    obtain ⟨l1, l2⟩ := h.e6 k hk
    refine ⟨q.p, q.e, q.T.symm, q.v.sm, by rw [q.v.n]; exact l1, fun j hj => ?_⟩
    have hj' : j < (R1 k).v.n := by rw [← q.v.n]; exact hj
    exact ⟨(q.H j hj').sm, by rw [(q.H j hj').n]; exact l2 j hj'⟩
  · intro k hk
    have := hrd.new k hk
    rw [hfn] at this
    exact this.keep (fun j hj _ => hb3.block j hj) (fun _ _ => trivial)
end Go.Proofs.Qxb6603997a
