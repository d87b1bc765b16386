import Derived.Test.Qxb6603997aRX
import Derived.Deep.RegionHeldLaw
import Derived.Deep.Onto
namespace Go.Proofs.Qxb6603997a
open Go.RowKit

/-- A slice that an append may take: it is the call's own (its block: own), or it is full. -/
def Gro (w : World) (base : Nat) (e : TypeId) (size : Nat) (own : Option Nat) (v : Value) (n : Nat) (xs : List Value) : Prop :=
  (w.ownsRow base e size v n xs ∧ own = v.ownBlock) ∨ (own = none ∧ ∃ a, v = .slice (some a) n n ∧ xs.length = n * size ∧ ∀ j u, xs[j]? = some u → w.cell? (a.add j) = some u)
/-- Behind an append the slice's own block is what it was, or a new one. -/
def FrO (w : World) (own own' : Option Nat) : Prop := own' = own ∨ ∃ g, own' = some g ∧ w.heap.size ≤ g

section
variable {P : Program}
theorem run_append_gro (w : World) (base : Nat) (t ty e : TypeId) (i : TypeInfo) (z : Value) (size bytes : Nat) (ht : P.underlying t = some (.slice e)) (hi : P.info? e = some i) (hz : i.zero = some z)
    (hsize : i.size = size) (hby : i.bytes = bytes) (hzs : z.cells.size = size) (hsz : 0 < size)
    (own : Option Nat) (v : Value) (n : Nat) (xs : List Value) (hown : Gro w base e size own v n xs)
    (a : Addr) (m c : Nat) (news : List Value) (hl : news.length = m * size) (hnews : ∀ j u, news[j]? = some u → w.cell? (a.add j) = some u) (h1 : ∀ u ∈ news, u.oneCell' = true)
    (h63 : n + m ≤ maxLen) (hbytes : (n + m) * bytes ≤ 140737488355328) (hbase : base ≤ w.heap.size) (hm : 0 < m) :
    ∃ v' w', (Builtin.append_ #[t, t] ty #[v, .slice (some a) m c]).run P w = .ok v' w' ∧ w'.ownsRow base e size v' (n + m) (xs ++ news) ∧ w.grownBy w' own ∧ FrO w own v'.ownBlock := by
  rcases hown with ⟨hown, rfl⟩ | ⟨rfl, b, rfl, hx, hc⟩
  · exact run_append_fr (P := P) w base t ty e i z size bytes ht hi hz hsize hby hzs hsz v n xs hown a m c news hl hnews h1 h63 hbytes hbase hm
  · obtain ⟨v', w', hrun, ho, hg⟩ := run_append_arg_grows (P := P) w t ty e i z size bytes ht hi hz hsize hby hzs hsz b n n xs hx hc a m c news hl hnews (by omega) h63 hbytes
    refine ⟨v', w', hrun, ho.mono hbase, hg, ?_⟩
    obtain ⟨g, cap, rfl⟩ := Joins.ownsRow_form ho (by omega)
    exact .inr ⟨g, rfl, (ho.lt g rfl).1⟩

theorem step_append_gro {ops : Array Oper} {o : Oper} {a : Act} {w : World} {K : Act → World → Prop} {Q : Exit → Act → World → Prop} {E : Prop}
    (hgd : o.guard = none) (s x : Operand) (t : TypeId) (hop : o.op = Op.call { callee := Callee.builtin Builtin.append, args := #[s, x], argTypes := #[t, t] })
    (base : Nat) (e : TypeId) (i : TypeInfo) (z : Value) (size bytes : Nat) (ht : P.underlying t = some (.slice e)) (hi : P.info? e = some i) (hz : i.zero = some z)
    (hsize : i.size = size) (hby : i.bytes = bytes) (hzs : z.cells.size = size) (hsz : 0 < size)
    (own : Option Nat) (v : Value) (n : Nat) (xs : List Value) (hs : a.eval s = v) (hown : Gro w base e size own v n xs)
    (ad : Addr) (m c : Nat) (news : List Value) (hx : a.eval x = .slice (some ad) m c) (hl : news.length = m * size) (hnews : ∀ j u, news[j]? = some u → w.cell? (ad.add j) = some u) (h1 : ∀ u ∈ news, u.oneCell' = true)
    (h63 : n + m ≤ maxLen) (hbytes : (n + m) * bytes ≤ 140737488355328) (hbase : base ≤ w.heap.size) (hm : 0 < m)
    (hK : ∀ v' w', w'.ownsRow base e size v' (n + m) (xs ++ news) → w.grownBy w' own → FrO w own v'.ownBlock → K (a.put o.dst v') w') :
    if Region.wanted o (yielded ops a.tmps) = true then Oper.wp P o a w K Q else E := by
  have hw : Region.wanted o (yielded ops a.tmps) = true := by simp [Region.wanted, hgd]
  rw [if_pos hw]
  obtain ⟨v', w', hrun, r1, r2, r3⟩ := run_append_gro (P := P) w base t o.type e i z size bytes ht hi hz hsize hby hzs hsz own v n xs hown ad m c news hl hnews h1 h63 hbytes hbase hm
  unfold Oper.wp
  simp [execOp, hop, resolve, invoke, builtin, hs, hx, hrun, Result.andThen]
  exact hK v' w' r1 r2 r3
end

theorem Gro.form {w : World} {base size n : Nat} {e : TypeId} {own : Option Nat} {v : Value} {xs : List Value} (h : Gro w base e size own v n xs) : ∃ a c, v = .slice a n c := by
  rcases h with ⟨h, -⟩ | ⟨-, a, rfl, -⟩
  · rcases h.2 with ⟨rfl, rfl⟩ | ⟨g, cap, cur, rfl, -⟩
    · exact ⟨_, _, rfl⟩
    · exact ⟨_, _, rfl⟩
  · exact ⟨_, _, rfl⟩
theorem Gro.keep {w w' : World} {base size n : Nat} {e : TypeId} {own : Option Nat} {v : Value} {xs : List Value} (h : Gro w base e size own v n xs) (hb : Below w.heap.size w w') : Gro w' base e size own v n xs := by
  rcases h with ⟨h, rfl⟩ | ⟨rfl, a, rfl, hx, hc⟩
  · exact .inl ⟨ownsRow_of_block h fun g hg => hb.block g (h.lt g hg).2, rfl⟩
  · refine .inr ⟨rfl, a, rfl, hx, fun j u hu => ?_⟩
    have h1 := hc j u hu
    exact (World.cell?_of_block (hb.block _ (World.block_lt_of_cell? w _ h1))).trans h1
theorem Gro.own {w : World} {base size n : Nat} {e : TypeId} {own : Option Nat} {v : Value} {xs : List Value} (h : Gro w base e size own v n xs) : ∀ g, own = some g → base ≤ g ∧ g < w.heap.size := by
  rcases h with ⟨h, rfl⟩ | ⟨rfl, -⟩
  · exact h.lt
  · intro g e; cases e

/-- The rows' cells. -/
def rowCells (R : Nat → RowD) (n : Nat) : List Value := (List.range n).flatMap fun k => [.int .i64 (R k).p, .int .i64 (R k).e, (R k).v.val]
theorem rowCells_succ (R : Nat → RowD) (n : Nat) : rowCells R (n + 1) = rowCells R n ++ [.int .i64 (R n).p, .int .i64 (R n).e, (R n).v.val] := by
  unfold rowCells; rw [List.range_succ, List.flatMap_append]; rfl
theorem rowCells_length (R : Nat → RowD) (n : Nat) : (rowCells R n).length = n * 3 := by
  induction n with
  | zero => rfl
  | succ n ih => rw [rowCells_succ, List.length_append, ih]; simp; omega
theorem rowCells_congr {R R' : Nat → RowD} {n : Nat} (h : ∀ k, k < n → R' k = R k) : rowCells R' n = rowCells R n := by
  induction n with
  | zero => rfl
  | succ n ih => rw [rowCells_succ, rowCells_succ, ih fun k hk => h k (by omega), h n (by omega)]
theorem rowCells_get (R : Nat → RowD) : ∀ (n k : Nat), k < n → (rowCells R n)[k * 3]? = some (.int .i64 (R k).p) ∧ (rowCells R n)[k * 3 + 1]? = some (.int .i64 (R k).e) ∧ (rowCells R n)[k * 3 + 2]? = some (R k).v.val
  | n + 1, k, hk => by
    rw [rowCells_succ]
    by_cases e : k = n
    · subst e
      have hl := rowCells_length R k
      refine ⟨?_, ?_, ?_⟩
      · rw [List.getElem?_append_right (by omega), hl, Nat.sub_self]; rfl
      · rw [List.getElem?_append_right (by omega), hl, show k * 3 + 1 - k * 3 = 1 by omega]; rfl
      · rw [List.getElem?_append_right (by omega), hl, show k * 3 + 2 - k * 3 = 2 by omega]; rfl
    · have hl := rowCells_length R n
      obtain ⟨h0, h1, h2⟩ := rowCells_get R n k (by omega)
      exact ⟨by rw [List.getElem?_append_left (by omega)]; exact h0, by rw [List.getElem?_append_left (by omega)]; exact h1, by rw [List.getElem?_append_left (by omega)]; exact h2⟩

/-- The parts of the row between two parentheses. -/
def spl (T : Nat → Tok) (I : Nat → Int) (p : Nat × Nat) : List (Nat × Nat) := sp (fun q => T (p.1 + 1 + q)) (fun q => I (p.1 + 1 + q)) (p.2 - (p.1 + 1)) (p.2 - (p.1 + 1)) 0 0

/-- A row as it was read. -/
structure RowOK (w : World) (N : Nat → Prop) (T : Nat → Tok) (I : Nat → Int) (p : Nat × Nat) (r : RowD) : Prop where
  pos : r.p = (T p.1).pos
  stop : r.e = (T p.2).stop
  ok : r.v.ok
  n : r.v.n = (spl T I p).length
  nil : r.v.a = none ↔ spl T I p = []
  vals : ValsAt w r.v r.H r.T
  ins : ValsIn N r.v r.H
  len : ∀ j, j < (spl T I p).length → (r.H j).n = ((spl T I p).getD j (0, 0)).2 - ((spl T I p).getD j (0, 0)).1
  tok : ∀ j q, j < (spl T I p).length → r.T j q = T (p.1 + 1 + (((spl T I p).getD j (0, 0)).1 + q))

theorem RowOK.keep {w w' : World} {N M : Nat → Prop} {T : Nat → Tok} {I : Nat → Int} {p : Nat × Nat} {r : RowD} (h : RowOK w N T I p r) (hk : Keep N w w') (nm : ∀ b, N b → M b) : RowOK w' M T I p r :=
  ⟨h.pos, h.stop, h.ok, h.n, h.nil, h.vals.keep hk h.ins, h.ins.mono nm, h.len, h.tok⟩

/-- Every part lies inside. -/
theorem sp_in (T : Nat → Tok) (I : Nat → Int) (m : Nat) : ∀ (f k s : Nat), k + f = m → s ≤ k → ∀ p ∈ sp T I m f k s, p.1 ≤ p.2 ∧ p.2 ≤ m
  | 0, k, s, h, hs, p, hp => by
    unfold sp at hp
    split at hp
    · simp at hp; subst hp; exact ⟨by show s ≤ m; omega, Nat.le_refl _⟩
    · cases hp
  | f + 1, k, s, h, hs, p, hp => by
    unfold sp at hp
    split at hp
    · rcases List.mem_cons.1 hp with e | hp
      · subst e; exact ⟨hs, by show k ≤ m; omega⟩
      · exact sp_in T I m f (k + 1) (k + 1) (by omega) (Nat.le_refl _) p hp
    · exact sp_in T I m f (k + 1) s (by omega) (by omega) p hp

theorem getD_mem {α : Type} (l : List α) (j : Nat) (d : α) (h : j < l.length) : l.getD j d ∈ l := by
  rw [List.getD_eq_getElem?_getD, List.getElem?_eq_getElem h]; exact List.getElem_mem h

/-- What splitTop gives. -/
theorem split_row {b off m cap : Nat} {T : Nat → Tok} {I : Nat → Int} {w w' : World} {v : Value} (ht : ToksAt w ⟨some ⟨b, off, none⟩, m, cap⟩ T) (hmc : m ≤ cap) (hcap : cap ≤ maxLen) (hb : Below w.heap.size w w')
    (ho : w'.ownsRow w.heap.size 36 1 v (sp T I m m 0 0).length (heads b off cap (sp T I m m 0 0))) (hnil : (sp T I m m 0 0).length = 0 → v = .slice none 0 0) :
    ∃ V : Hd, v = V.val ∧ V.ok ∧ V.n = (sp T I m m 0 0).length ∧ (V.a = none ↔ sp T I m m 0 0 = []) ∧ V.In (fun g => w.heap.size ≤ g ∧ g < w'.heap.size) ∧
      ValsAt w' V (fun j => part b off cap ((sp T I m m 0 0).getD j (0, 0))) (fun j q => T (((sp T I m m 0 0).getD j (0, 0)).1 + q)) := by
  have hin := sp_in T I m m 0 0 (by omega) (Nat.le_refl _)
  generalize sp T I m m 0 0 = L at *
  have hpart : ∀ j, j < L.length → (part b off cap (L.getD j (0, 0))).ok ∧ ToksAt w' (part b off cap (L.getD j (0, 0))) (fun q => T ((L.getD j (0, 0)).1 + q)) := by
    intro j hj
    obtain ⟨h1, h2⟩ := hin _ (getD_mem L j (0, 0) hj)
    generalize L.getD j (0, 0) = p at *
    obtain ⟨s, k⟩ := p
    simp only at h1 h2
    refine ⟨⟨fun e => ?_, ?_, ?_⟩, fun q hq => ?_⟩
    · unfold part at e; split at e <;> cases e
    · show k - s ≤ cap - s; omega
    · show cap - s ≤ maxLen; omega
    · have hq' : q < k - s := hq
      obtain ⟨b', off', e, hc⟩ := ht (s + q) (show s + q < m by omega)
      cases e
      refine ⟨b, off + s * 5, ?_, ?_⟩
      · unfold part; rw [if_neg (by show ¬ cap = s; omega)]
      · have := hc.below hb
        rw [show off + s * 5 + q * 5 = off + (s + q) * 5 by omega]
        exact this
  rcases ho.2 with ⟨rfl, h0⟩ | ⟨g, c, cur, rfl, hg, hblk, hnc, hcm, hcs, htk⟩
  · have hL : L = [] := List.eq_nil_of_length_eq_zero h0
    subst hL
    exact ⟨⟨none, 0, 0⟩, rfl, ⟨fun _ => ⟨rfl, rfl⟩, Nat.le_refl _, Nat.zero_le _⟩, rfl, ⟨fun _ => rfl, fun _ => rfl⟩, fun _ _ _ e => (by cases e), fun j hj => absurd hj (Nat.not_lt_zero _)⟩
  · have hL : L ≠ [] := fun e => by subst e; have := hnil rfl; cases this
    refine ⟨⟨some ⟨g, 0, none⟩, L.length, c⟩, rfl, ⟨fun e => (by cases e), hnc, hcm⟩, rfl, ⟨fun e => (by cases e), fun e => absurd e hL⟩, fun _ _ _ e => ?_, fun j hj => ⟨⟨g, 0, rfl, ?_⟩, hpart j hj⟩⟩
    · cases e; exact ho.lt g rfl
    · have hj' : j < L.length := hj
      show w'.cell? ⟨g, 0 + j * 1, none⟩ = some (part b off cap (L.getD j (0, 0))).val
      rw [Nat.zero_add, Nat.mul_one, ho.cellAt j (by omega)]
      unfold heads
      rw [List.getElem?_map, List.getD_eq_getElem?_getD, List.getElem?_eq_getElem hj']
      rfl

/-! ### Where readRows stands in memory -/

/-- The blocks that an append onto the rows and the store of their head leave. -/
def Safe (wr : World) (bi : Nat) (own : Option Nat) (b : Nat) : Prop := b < wr.heap.size ∧ b ≠ bi ∧ own ≠ some b

structure RdSt (w wr : World) (bi m : Nat) (T : Nat → Tok) (I : Nat → Int) (R0 : Nat → RowD) (v0 : Value) (acc : List (Nat × Nat)) (own : Option Nat) (v : Value) (R : Nat → RowD) : Prop where
  cell : wr.cell? ⟨bi, 3, none⟩ = some v
  frz : wr.frozen? ⟨bi, 3, none⟩ = false
  gro : Gro wr w.heap.size 54 3 own v (m + acc.length) (rowCells R (m + acc.length))
  nil : acc.length = 0 → v = v0
  old : ∀ k, k < m → R k = R0 k
  new : ∀ k, k < acc.length → RowOK wr (Safe wr bi own) T I (acc.getD k (0, 0)) (R (m + k))
  os : wr.os = w.os
  tape : wr.tape = w.tape
  output : wr.output = w.output
  size : w.heap.size ≤ wr.heap.size
  keep : ∀ j, j < w.heap.size → j ≠ bi → wr.heap[j]? = w.heap[j]?
  other : ∀ o, o ≠ 3 → wr.cell? ⟨bi, o, none⟩ = w.cell? ⟨bi, o, none⟩

section
variable {w wr w2 w3 : World} {bi m : Nat} {T : Nat → Tok} {I : Nat → Int} {R0 R : Nat → RowD} {v0 v : Value} {acc : List (Nat × Nat)} {own : Option Nat}
theorem RdSt.below (h : RdSt w wr bi m T I R0 v0 acc own v R) (hb : Below wr.heap.size wr w2) : RdSt w w2 bi m T I R0 v0 acc own v R := by
  have hbi : bi < wr.heap.size := World.block_lt_of_cell? wr _ h.cell
  have hc : ∀ o, w2.cell? ⟨bi, o, none⟩ = wr.cell? ⟨bi, o, none⟩ := fun o => World.cell?_of_block (hb.block bi hbi)
  exact ⟨(hc 3).trans h.cell, (World.frozen?_of_block (hb.block bi hbi)).trans h.frz, h.gro.keep hb, h.nil, h.old,
    fun k hk => (h.new k hk).keep (fun j hj _ => hb.block j hj) (fun b hb' => ⟨Nat.lt_of_lt_of_le hb'.1 hb.size, hb'.2⟩),
    hb.os.trans h.os, hb.tape.trans h.tape, hb.output.trans h.output, Nat.le_trans h.size hb.size,
    fun j hj hne => (hb.block j (Nat.lt_of_lt_of_le hj h.size)).trans (h.keep j hj hne), fun o ho => (hc o).trans (h.other o ho)⟩

theorem RdSt.next (h : RdSt w wr bi m T I R0 v0 acc own v R) {V : Hd} {H : Nat → Hd} {TT : Nat → Nat → Tok} {k c bt g cp : Nat} {x : Obj} (hbi : bi < w.heap.size) (hbt : bt < w.heap.size) (hbb : bt ≠ bi)
    (hb2 : Below wr.heap.size wr w2) (hok : V.ok) (hn : V.n = (spl T I (k, c)).length) (hnil : V.a = none ↔ spl T I (k, c) = []) (hin : V.In fun g => wr.heap.size ≤ g ∧ g < w2.heap.size) (hH : ∀ j, (H j).In fun g => g = bt) (hv : ValsAt w2 V H TT)
    (hlen : ∀ j, j < (spl T I (k, c)).length → (H j).n = ((spl T I (k, c)).getD j (0, 0)).2 - ((spl T I (k, c)).getD j (0, 0)).1) (htok : ∀ j q, j < (spl T I (k, c)).length → TT j q = T (k + 1 + (((spl T I (k, c)).getD j (0, 0)).1 + q)))
    (g1 : w3.ownsRow w.heap.size 54 3 (.slice (some ⟨g, 0, none⟩) (m + acc.length + 1) cp) (m + acc.length + 1) (rowCells R (m + acc.length) ++ [.int .i64 (T k).pos, .int .i64 (T c).stop, V.val]))
    (g2 : (w2.alloc x).grownBy w3 own) (g3 : FrO (w2.alloc x) own (some g)) :
    ∃ R', RdSt w (w3.setCell ⟨bi, 3, none⟩ (.slice (some ⟨g, 0, none⟩) (m + acc.length + 1) cp)) bi m T I R0 v0 (acc ++ [(k, c)]) (some g) (.slice (some ⟨g, 0, none⟩) (m + acc.length + 1) cp) R' := by
  have hs2 := hb2.size
  have hs3 : w2.heap.size + 1 ≤ w3.heap.size := by have := g2.size; simpa using this
  have hgw := (g1.lt g rfl).1
  have hgs := (g1.lt g rfl).2
  have hws := h.size
  have hown : ∀ j, own = some j → w.heap.size ≤ j ∧ j < wr.heap.size := h.gro.own
  -- a block below, none of the rows' own, is as it was
  have stay : ∀ j, j < w2.heap.size → own ≠ some j → w3.heap[j]? = w2.heap[j]? := fun j hj ho => (g2.block j (by simp; omega) (fun e => ho e.symm)).trans (Below.heap_alloc w2 x j hj)
  have stayr : ∀ j, j < wr.heap.size → own ≠ some j → w3.heap[j]? = wr.heap[j]? := fun j hj ho => (stay j (by omega) ho).trans (hb2.block j hj)
  have hoi : own ≠ some bi := fun e => by have := (hown bi e).1; omega
  have hbi3 : w3.heap[bi]? = wr.heap[bi]? := stayr bi (by omega) hoi
  have hc3 : w3.cell? ⟨bi, 3, none⟩ = some v := (World.cell?_of_block hbi3).trans h.cell
  -- what was safe is safe
  have safe : ∀ b, Safe wr bi own b → Safe (w3.setCell ⟨bi, 3, none⟩ (.slice (some ⟨g, 0, none⟩) (m + acc.length + 1) cp)) bi (some g) b := by
    rintro b ⟨q1, q2, q3⟩
    refine ⟨by simp; omega, q2, fun e => ?_⟩
    cases e
    rcases g3 with e | ⟨g', e, hg'⟩
    · exact q3 e.symm
    · cases e; simp at hg'; omega
  have hset : ∀ j, j ≠ bi → (w3.setCell ⟨bi, 3, none⟩ (.slice (some ⟨g, 0, none⟩) (m + acc.length + 1) cp)).heap[j]? = w3.heap[j]? := fun j hj => Below.heap_setCell _ _ _ _ hj
  have kp : Keep (Safe wr bi own) wr (w3.setCell ⟨bi, 3, none⟩ (.slice (some ⟨g, 0, none⟩) (m + acc.length + 1) cp)) := fun j hj hsf => (hset j hsf.2.1).trans (stayr j hj hsf.2.2)
  obtain ⟨r, hr⟩ : ∃ r : RowD, r = ⟨(T k).pos, (T c).stop, V, H, TT⟩ := ⟨_, rfl⟩
  refine ⟨fun j => if j = m + acc.length then r else R j, ?_⟩
  have hcg : rowCells (fun j => if j = m + acc.length then r else R j) (m + acc.length) = rowCells R (m + acc.length) := rowCells_congr fun j hj => if_neg (by omega)
  refine ⟨World.cell?_setCell_same _ _ _ hc3, ?_, .inl ⟨?_, rfl⟩, ?_, ?_, ?_, ?_, ?_, ?_, ?_, ?_, ?_⟩
  · rw [World.frozen?_setCell]; exact (World.frozen?_of_block hbi3).trans h.frz
  · rw [List.length_append, List.length_singleton, ← Nat.add_assoc, rowCells_succ, hcg, if_pos rfl, hr]
    exact ownsRow_of_block g1 fun j hj => hset j (by have : g = j := Option.some.inj hj; omega)
  · intro e; simp at e
  · intro j hj; rw [if_neg (by omega)]; exact h.old j hj
  · intro j hj
    rw [List.length_append, List.length_singleton] at hj
    by_cases e : j = acc.length
    · subst e
      have hget : (acc ++ [(k, c)]).getD acc.length (0, 0) = (k, c) := by simp
      rw [hget, if_pos rfl, hr]
      have kp2 : Keep (fun b => b = bt ∨ (wr.heap.size ≤ b ∧ b < w2.heap.size)) w2 (w3.setCell ⟨bi, 3, none⟩ (.slice (some ⟨g, 0, none⟩) (m + acc.length + 1) cp)) := by
        intro j hj hor
        have hjo : own ≠ some j := fun e => by have := hown j e; omega
        exact (hset j (by omega)).trans (stay j hj hjo)
      have hins : ValsIn (fun b => b = bt ∨ (wr.heap.size ≤ b ∧ b < w2.heap.size)) V H := ⟨hin.mono fun b hb => .inr hb, fun j _ => (hH j).mono fun b hb => .inl hb⟩
      refine ⟨rfl, rfl, hok, hn, hnil, hv.keep kp2 hins, hins.mono ?_, hlen, htok⟩
      intro b hb
      refine ⟨by simp; omega, by omega, fun e => ?_⟩
      cases e
      rcases g3 with e | ⟨g', e, hg'⟩
      · have := hown g e.symm; omega
      · cases e; simp at hg'; omega
    · have hj' : j < acc.length := by omega
      have hget : (acc ++ [(k, c)]).getD j (0, 0) = acc.getD j (0, 0) := by
        rw [List.getD_eq_getElem?_getD, List.getD_eq_getElem?_getD, List.getElem?_append_left hj']
      rw [hget, if_neg (by omega)]
      exact (h.new j hj').keep kp safe
  · show w3.os = w.os; exact g2.os.trans (hb2.os.trans h.os)
  · show w3.tape = w.tape; exact g2.tape.trans (hb2.tape.trans h.tape)
  · show w3.output = w.output; exact g2.output.trans (hb2.output.trans h.output)
  · simp; omega
  · intro j hj hne
    exact (hset j hne).trans ((stayr j (by omega) fun e => by have := (hown j e).1; omega).trans (h.keep j hj hne))
  · intro o ho
    refine (World.cell?_setCell_other _ _ _ _ (by intro e; cases e; exact ho rfl)).trans ?_
    exact (World.cell?_of_block (a := ⟨bi, o, none⟩) hbi3).trans (h.other o ho)
end

/-- What splitTop makes of the inside of a row. -/
def SpRes (w w2 : World) (T : Nat → Tok) (I : Nat → Int) (k c bt : Nat) (V : Hd) : Prop :=
  ∃ (H : Nat → Hd) (TT : Nat → Nat → Tok), V.ok ∧ V.n = (spl T I (k, c)).length ∧ (V.a = none ↔ spl T I (k, c) = []) ∧ (V.In fun g => w.heap.size ≤ g ∧ g < w2.heap.size) ∧ (∀ j, (H j).In fun g => g = bt) ∧ ValsAt w2 V H TT ∧
    (∀ j, j < (spl T I (k, c)).length → (H j).n = ((spl T I (k, c)).getD j (0, 0)).2 - ((spl T I (k, c)).getD j (0, 0)).1) ∧ (∀ j q, j < (spl T I (k, c)).length → TT j q = T (k + 1 + (((spl T I (k, c)).getD j (0, 0)).1 + q)))

theorem split_any (b off n cap b1 off1 nd cd : Nat) (T : Nat → Tok) (I : Nat → Int) (k c : Nat) (w : World) (ht : ToksAt w ⟨some ⟨b, off, none⟩, n, cap⟩ T) (hi : IntsAt w ⟨some ⟨b1, off1, none⟩, nd, cd⟩ I) (hkc : k < c) (hcn : c < n) (hn : n ≤ 1048576) (hnc : n ≤ cap) (hcm : cap ≤ maxLen) (hnd : n ≤ nd) :
    Calls Try.prog 44 #[.slice (some ⟨b, off + (k + 1) * 5, none⟩) (c - (k + 1)) (cap - (k + 1)), .slice (some ⟨b1, off1 + (k + 1), none⟩) (c - (k + 1)) (cd - (k + 1)), .string ⟨#[44]⟩] w fun e w' => ∃ V : Hd, e = .returned (.slice V.a V.n V.cap) ∧ Hid (SpRes w w' T I k c b V) ∧ Below w.heap.size w w' := by
  have h1 : ToksAt w ⟨some ⟨b, off + (k + 1) * 5, none⟩, c - (k + 1), cap - (k + 1)⟩ (fun q => T (k + 1 + q)) := by
    intro q hq
    have hq' : q < c - (k + 1) := hq
    obtain ⟨b', off', e, hc⟩ := ht (k + 1 + q) (show k + 1 + q < n by omega)
    cases e
    refine ⟨b, _, rfl, ?_⟩
    rw [show off + (k + 1) * 5 + q * 5 = off + (k + 1 + q) * 5 by omega]
    exact hc
  have h2 : IntsAt w ⟨some ⟨b1, off1 + (k + 1), none⟩, c - (k + 1), cd - (k + 1)⟩ (fun q => I (k + 1 + q)) := by
    intro q hq
    have hq' : q < c - (k + 1) := hq
    obtain ⟨b', off', e, hc⟩ := hi (k + 1 + q) (show k + 1 + q < nd by omega)
    cases e
    refine ⟨b1, _, rfl, ?_⟩
    rw [show off1 + (k + 1) + q * 1 = off1 + (k + 1 + q) * 1 by omega]
    exact hc
  refine (split_own b (off + (k + 1) * 5) (c - (k + 1)) (cap - (k + 1)) ⟨some ⟨b1, off1 + (k + 1), none⟩, c - (k + 1), cd - (k + 1)⟩ _ _ w h1 h2 (by omega) (by omega) (by omega) rfl).mono ?_
  rintro e w' ⟨v, rfl, ho, hnil, hb⟩
  obtain ⟨V, rfl, q1, q2, q3, q4, q5⟩ := split_row h1 (by omega) (by omega) hb ho hnil
  refine ⟨V, rfl, ⟨_, _, q1, q2, q3, q4, fun j => ?_, q5, fun j _ => rfl, fun j q _ => rfl⟩, hb⟩
  intro b' o s e
  unfold part at e
  split at e <;> (cases e; rfl)
end Go.Proofs.Qxb6603997a
