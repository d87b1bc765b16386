import Derived.Test.Qxb6603997aRY
import Derived.Test.Qxb6603997aRG
import Derived.Deep.AppendLies
namespace Go.Proofs.Qxb6603997a
open Go.RowKit

/-- What stands behind the call of splitTop. -/
structure SpAt (w3 w4 : World) (T : Nat → Tok) (I : Nat → Int) (k c b bi : Nat) (V : Hd) : Prop where
  res : SpRes w3 w4 T I k c b V
  bel : Below w3.heap.size w3 w4

/-- What stands behind the append of a row. -/
def NxAt (w w5 : World) (bi m : Nat) (T : Nat → Tok) (I : Nat → Int) (R0 : Nat → RowD) (v0 : Value) (acc : List (Nat × Nat)) (k c g cp : Nat) : Prop :=
  ∃ R', RdSt w (w5.setCell ⟨bi, 3, none⟩ (.slice (some ⟨g, 0, none⟩) (m + acc.length + 1) cp)) bi m T I R0 v0 (acc ++ [(k, c)]) (some g) (.slice (some ⟨g, 0, none⟩) (m + acc.length + 1) cp) R'

/-- The append of a row, as one step of readRows' region. -/
theorem step_rows {ops : Array Oper} {o : Oper} {a : Act} {K : Act → World → Prop} {Q : Exit → Act → World → Prop} {E : Prop}
    {w w3 w4 : World} {bi m k c b cv : Nat} {T : Nat → Tok} {I : Nat → Int} {R0 R : Nat → RowD} {v0 : Value} {acc : List (Nat × Nat)} {own : Option Nat} {av : Option Addr} {V : Hd}
    (h : RdSt w w3 bi m T I R0 v0 acc own (.slice av (m + acc.length) cv) R) (hbi : bi < w.heap.size) (hbt : b < w.heap.size) (hbb : b ≠ bi) (hm : m ≤ 1048576) (hacc : acc.length ≤ 1048576) (HV : SpAt w3 w4 T I k c b bi V)
    (hgd : o.guard = none) (hop : o.op = Op.call { callee := Callee.builtin Builtin.append, args := #[.tmp 32, .tmp 55], argTypes := #[41, 41] })
    (hs : a.eval (.tmp 32) = .slice av (m + acc.length) cv) (hx : a.eval (.tmp 55) = .slice (some ⟨w4.heap.size, 0, none⟩) 1 1)
    (hK : ∀ g cp w5, Hid (NxAt w w5 bi m T I R0 v0 acc k c g cp) → w5.cell? ⟨bi, 3, none⟩ = some (.slice av (m + acc.length) cv) → w5.frozen? ⟨bi, 3, none⟩ = false → (∀ o u, w4.cell? ⟨b, o, none⟩ = some u → w5.cell? ⟨b, o, none⟩ = some u) → K (a.put o.dst (.slice (some ⟨g, 0, none⟩) (m + acc.length + 1) cp)) w5) :
    if Region.wanted o (yielded ops a.tmps) = true then Oper.wp Try.prog o a (w4.alloc (.cells #[.int .i64 (T k).pos, .int .i64 (T c).stop, .slice V.a V.n V.cap] 54)) K Q else E := by
  obtain ⟨i0, hi0, hz0, hz1, hz2⟩ := info_parts Try.info54
  have hb4 := HV.bel
  refine step_append_gro hgd (.tmp 32) (.tmp 55) 41 hop w.heap.size 54 i0 _ 3 40 Try.underlying41 hi0 hz0 hz1 hz2 rfl (by decide) own _ (m + acc.length) (rowCells R (m + acc.length)) hs (h.gro.keep (hb4.alloc hb4.size _)) ⟨w4.heap.size, 0, none⟩ 1 1 [.int .i64 (T k).pos, .int .i64 (T c).stop, .slice V.a V.n V.cap] hx rfl (World.news_of_block (heap_alloc_new w4 _)) (fun x hx => by simp at hx; rcases hx with rfl | rfl | rfl <;> rfl) (by unfold maxLen; omega) (by omega) (by have := hb4.size; have := h.size; simp; omega) (by decide) ?_
  intro v' w5 g1 g2 g3
  obtain ⟨g, cp, rfl⟩ := Joins.ownsRow_form g1 (by omega)
  have z3 := cell_b hb4 h.cell
  have zf := (hb4.frozen (p := ⟨bi, 3, none⟩) (World.block_lt_of_cell? w3 _ h.cell)).trans h.frz
  have hbo : own ≠ some bi := fun e => by have := (h.gro.own bi e).1; omega
  have hbo' : own ≠ some b := fun e => by have := (h.gro.own b e).1; omega
  refine hK g cp w5 ?_ ?_ ?_ ?_
  · obtain ⟨H, TT, p1, p2, p3, p4, p5, p6, p7, p8⟩ := HV.res
    exact h.next hbi hbt hbb hb4 p1 p2 p3 p4 p5 p6 p7 p8 g1 g2 g3
  · exact (g2.cell_far ⟨bi, 3, none⟩ (Nat.lt_of_lt_of_le (cell_lt z3) (by simp)) (fun e => hbo e.symm)).trans ((World.cell?_alloc_lt w4 _ _ (cell_lt z3)).trans z3)
  · exact (g2.frozen_far ⟨bi, 3, none⟩ (Nat.lt_of_lt_of_le (cell_lt z3) (by simp)) (fun e => hbo e.symm)).trans (((Below.refl _ w4).alloc (Nat.le_refl _) _).frozen (p := ⟨bi, 3, none⟩) (cell_lt z3) |>.trans zf)
  · intro o u hu
    exact (g2.cell_far ⟨b, o, none⟩ (Nat.lt_of_lt_of_le (cell_lt hu) (by simp)) (fun e => hbo' e.symm)).trans ((World.cell?_alloc_lt w4 _ _ (cell_lt hu)).trans hu)
end Go.Proofs.Qxb6603997a
