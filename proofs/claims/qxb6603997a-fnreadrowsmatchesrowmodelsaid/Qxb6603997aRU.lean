import Derived.Test.Qxb6603997aRM
import Derived.ArgAppend
import Derived.Deep.RegionLaw
import Derived.Lib.SmallJoins
namespace Go.Proofs.Qxb6603997a
open Go.RowKit

/-- Behind an append the slice lies where it lay, or in a new block. -/
def Fr (w : World) (v v' : Value) : Prop := v'.ownBlock = v.ownBlock ∨ ∃ g, v'.ownBlock = some g ∧ w.heap.size ≤ g

section
variable {P : Program}
theorem run_append_fr (w : World) (base : Nat) (t ty e : TypeId) (i : TypeInfo) (z : Value) (size bytes : Nat) (ht : P.underlying t = some (.slice e)) (hi : P.info? e = some i) (hz : i.zero = some z)
    (hsize : i.size = size) (hby : i.bytes = bytes) (hzs : z.cells.size = size) (hsz : 0 < size)
    (v : Value) (n : Nat) (xs : List Value) (hown : w.ownsRow base e size v n xs)
    (a : Addr) (m c : Nat) (news : List Value) (hl : news.length = m * size) (hnews : ∀ j u, news[j]? = some u → w.cell? (a.add j) = some u) (h1 : ∀ u ∈ news, u.oneCell' = true)
    (h63 : n + m ≤ maxLen) (hbytes : (n + m) * bytes ≤ 140737488355328) (hbase : base ≤ w.heap.size) (hm : 0 < m) :
    ∃ v' w', (Builtin.append_ #[t, t] ty #[v, .slice (some a) m c]).run P w = .ok v' w' ∧ w'.ownsRow base e size v' (n + m) (xs ++ news) ∧ w.grownBy w' v.ownBlock ∧ Fr w v v' := by
  obtain ⟨v', w', hrun, ho, hg, _⟩ := run_append_own (P := P) w base t ty e i z size bytes ht hi hz hsize hby hzs hsz v n xs hown a m c news hl hnews h1 h63 hbytes hbase
  refine ⟨v', w', hrun, ho, hg, ?_⟩
  have fresh : ∀ {u : Value} {wu : World} {ys : List Value}, wu.ownsRow w.heap.size e size u (n + m) ys → Fr w v u := by
    intro u wu ys h
    obtain ⟨g, cap, rfl⟩ := Joins.ownsRow_form h (by omega)
    exact .inr ⟨g, rfl, (h.lt g rfl).1⟩
  rcases hown.2 with ⟨rfl, rfl⟩ | ⟨g, cap, cur, rfl, hbg, hblk, hnc, hcm, hcs, htk⟩
  · have hx0 : xs = [] := List.eq_nil_of_length_eq_zero (by simpa using hown.1)
    subst hx0
    obtain ⟨v2, w2, hrun2, ho2, _, _⟩ := run_append_own (P := P) w w.heap.size t ty e i z size bytes ht hi hz hsize hby hzs hsz (.slice none 0 0) 0 [] (World.ownsRow_nil w _ e size) a m c news hl hnews h1 h63 hbytes (Nat.le_refl _)
    rw [hrun] at hrun2
    cases hrun2
    exact fresh ho2
  · by_cases hroom : n + m ≤ cap
    · have hcell : ∀ j, j < cap * size → w.cell? ⟨g, j, none⟩ = cur[j]? := fun j _ => by simp [World.cell?, hblk]
      subst hsize
      have hrun2 := run_append_room_cells (P := P) w t ty e i ht hi g 0 n cap a m c news hl hnews h1 hroom
        (fun j hj => by
          have hlt : 0 + n * i.size + j < cap * i.size := by
            have : (n + m) * i.size ≤ cap * i.size := Nat.mul_le_mul_right _ hroom
            rw [Nat.add_mul] at this
            omega
          rw [hcell _ hlt]
          rw [Array.getElem?_eq_getElem (by rw [hcs]; exact hlt)]
          rfl)
        (fun j _ => by simp [World.frozen?, hblk])
      rw [hrun] at hrun2
      cases hrun2
      exact .inl rfl
    · obtain ⟨v2, w2, hrun2, ho2, _⟩ := run_append_arg_grows (P := P) w t ty e i z size bytes ht hi hz hsize hby hzs hsz ⟨g, 0, none⟩ n cap xs hown.1
        (fun j u hu => by
          have hj : j < n * size := by rw [← hown.1]; exact (List.getElem?_eq_some_iff.1 hu).1
          rw [Addr.add_lit, Nat.zero_add, hown.cellAt j hj]
          exact hu) a m c news hl hnews (by omega) h63 hbytes
      rw [hrun] at hrun2
      cases hrun2
      exact fresh ho2

/-- append onto a slice of the call's own, told with where it lies then. -/
theorem wpList_append_fr (w : World) {ops : Array Oper} {rest : List Oper} {o : Oper} {a : Act} {Q : Exit → Act → World → Prop} (hgd : o.guard = none) (s x : Operand) (t : TypeId)
    (ho : o.op = .call { callee := .builtin .append, args := #[s, x], argTypes := #[t, t] })
    (base : Nat) (e : TypeId) (i : TypeInfo) (z : Value) (size bytes : Nat) (ht : P.underlying t = some (.slice e)) (hi : P.info? e = some i) (hz : i.zero = some z)
    (hsize : i.size = size) (hby : i.bytes = bytes) (hzs : z.cells.size = size) (hsz : 0 < size)
    (v : Value) (n : Nat) (xs : List Value) (hs : a.eval s = v) (hown : w.ownsRow base e size v n xs)
    (ad : Addr) (m c : Nat) (news : List Value) (hx : a.eval x = .slice (some ad) m c) (hl : news.length = m * size) (hnews : ∀ j u, news[j]? = some u → w.cell? (ad.add j) = some u) (h1 : ∀ u ∈ news, u.oneCell' = true)
    (h63 : n + m ≤ maxLen) (hbytes : (n + m) * bytes ≤ 140737488355328) (hbase : base ≤ w.heap.size) (hm : 0 < m)
    (h : ∀ v' w', w'.ownsRow base e size v' (n + m) (xs ++ news) → w.grownBy w' v.ownBlock → Fr w v v' → wpList P ops Q rest (a.put o.dst v') w') : wpList P ops Q (o :: rest) a w := by
  refine wpList_plain hgd fun K hK' => ?_
  obtain ⟨v', w', hrun, r1, r2, r3⟩ := run_append_fr (P := P) w base t o.type e i z size bytes ht hi hz hsize hby hzs hsz v n xs hown ad m c news hl hnews h1 h63 hbytes hbase hm
  unfold Oper.wp
  simp [execOp, ho, resolve, invoke, builtin, hs, hx, hrun, Result.andThen]
  exact hK' _ _ (h v' w' r1 r2 r3)
end
end Go.Proofs.Qxb6603997a
