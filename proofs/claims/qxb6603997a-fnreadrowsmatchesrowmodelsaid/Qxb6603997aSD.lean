import Derived.Test.Qxb6603997aRY
import Derived.Test.Qxb6603997aRH
import Derived.Test.Qxb6603997aRI
import Derived.Test.Qxb6603997aRO
namespace Go.Proofs.Qxb6603997a
open Go.RowKit

theorem Below.seq {a b c : World} (h : Below a.heap.size a b) (k : Below b.heap.size b c) : Below a.heap.size a c := h.trans (k.mono h.size)

/-! ### The rows read, plain -/
theorem rd_in (T : Nat → Tok) (n : Nat) : ∀ (f at_ : Nat) (p : Nat × Nat), p ∈ (rd T n f at_).2 → p.1 < p.2 ∧ p.2 < n
  | 0, _, p, h => by cases h
  | f + 1, at_, p, h => by
    by_cases h1 : at_ < n ∧ opn T at_ = true
    · rcases cl_at h1.1 h1.2 with hc | ⟨c, hc, hkc, hcn⟩
      · rw [rd_open h1.1 h1.2 hc] at h; cases h
      · by_cases h2 : c + 1 < n ∧ cma T (c + 1) = true
        · rw [rd_more h1.1 h1.2 hc h2.1 h2.2] at h
          rcases List.mem_cons.1 h with e | h
          · subst e; exact ⟨hkc, hcn⟩
          · exact rd_in T n f _ p h
        · rw [rd_last h1.1 h1.2 hc h2] at h
          rcases List.mem_cons.1 h with e | h
          · subst e; exact ⟨hkc, hcn⟩
          · cases h
    · rw [rd_stop _ _ h1] at h; cases h
theorem rd_len (T : Nat → Tok) (n : Nat) : ∀ (f at_ : Nat), (rd T n f at_).2.length ≤ n - at_
  | 0, _ => Nat.zero_le _
  | f + 1, at_ => by
    by_cases h1 : at_ < n ∧ opn T at_ = true
    · rcases cl_at h1.1 h1.2 with hc | ⟨c, hc, hkc, hcn⟩
      · rw [rd_open h1.1 h1.2 hc]; exact Nat.zero_le _
      · by_cases h2 : c + 1 < n ∧ cma T (c + 1) = true
        · rw [rd_more h1.1 h1.2 hc h2.1 h2.2]
          have := rd_len T n f (c + 2)
          simp only [List.length_cons]
          omega
        · rw [rd_last h1.1 h1.2 hc h2]
          simp only [List.length_singleton]
          omega
    · rw [rd_stop _ _ h1]; exact Nat.zero_le _

/-! ### The rows' slice -/
theorem cell_spot {w : World} {b o : Nat} {s : Option Nat} {v : Value} (h : w.cell? ⟨b, o, s⟩ = some v) : s = none := by
  cases s with
  | none => rfl
  | some s =>
    unfold World.cell? at h
    split at h <;> simp at h

theorem gro_of {w : World} {B : Nat} {f : Hd} {R : Nat → RowD} (hok : f.ok) (hcap : f.cap = f.n) (hr : RowsAt w f R) : ∃ own, Gro w B 54 3 own f.val f.n (rowCells R f.n) := by
  obtain ⟨a, n, cap⟩ := f
  simp only at hcap
  subst hcap
  cases a with
  | none =>
    obtain ⟨h1, -⟩ := hok.1 rfl
    simp only at h1
    subst h1
    exact ⟨none, .inl ⟨World.ownsRow_nil _ _ _ _, rfl⟩⟩
  | some a =>
    refine ⟨none, .inr ⟨rfl, a, rfl, rowCells_length R _, fun j u hu => ?_⟩⟩
    have hj : j < cap * 3 := by
      rw [← rowCells_length R cap]
      exact (List.getElem?_eq_some_iff.1 hu).1
    obtain ⟨⟨b, off, e, hc⟩, -, -⟩ := hr (j / 3) (show j / 3 < cap by omega)
    cases e
    obtain ⟨g0, g1, g2⟩ := rowCells_get R cap (j / 3) (by omega)
    have h3 : j = j / 3 * 3 + j % 3 := by omega
    have hm : j % 3 < 3 := by omega
    rw [Addr.add_lit]
    generalize hq : j / 3 = q at *
    rcases (show j % 3 = 0 ∨ j % 3 = 1 ∨ j % 3 = 2 by omega) with h | h | h
    · have e : j = q * 3 := by omega
      rw [e] at hu ⊢
      rw [g0] at hu
      rw [← hu]; exact hc.c0
    · have e : j = q * 3 + 1 := by omega
      rw [e] at hu ⊢
      rw [g1] at hu
      rw [← hu, ← Nat.add_assoc]; exact hc.c1
    · have e : j = q * 3 + 2 := by omega
      rw [e] at hu ⊢
      rw [g2] at hu
      rw [← hu, ← Nat.add_assoc]; exact hc.c2

theorem rows_of {w : World} {B n : Nat} {own : Option Nat} {v : Value} {R : Nat → RowD} (hg : Gro w B 54 3 own v n (rowCells R n)) (hv : ∀ k, k < n → (R k).v.ok ∧ ValsAt w (R k).v (R k).H (R k).T) :
    ∃ f : Hd, v = f.val ∧ f.n = n ∧ (f.a = none → n = 0) ∧ RowsAt w f R := by
  rcases hg with ⟨h, rfl⟩ | ⟨rfl, a, rfl, hl, hc⟩
  · rcases h.2 with ⟨rfl, h0⟩ | ⟨g, cap, cur, rfl, -⟩
    · exact ⟨⟨none, 0, 0⟩, rfl, h0.symm, fun _ => h0, fun k hk => absurd hk (Nat.not_lt_zero _)⟩
    · refine ⟨⟨some ⟨g, 0, none⟩, n, cap⟩, rfl, rfl, fun e => (by cases e), fun k hk => ⟨⟨g, 0, rfl, ?_⟩, hv k hk⟩⟩
      have hk' : k < n := hk
      obtain ⟨g0, g1, g2⟩ := rowCells_get R n k hk'
      rw [Nat.zero_add]
      exact ⟨(h.cellAt (k * 3) (by omega)).trans g0, (h.cellAt (k * 3 + 1) (by omega)).trans g1, (h.cellAt (k * 3 + 2) (by omega)).trans g2⟩
  · obtain ⟨b, off, s⟩ := a
    refine ⟨⟨some ⟨b, off, s⟩, n, n⟩, rfl, rfl, fun e => (by cases e), fun k hk => ⟨?_, hv k hk⟩⟩
    have hk' : k < n := hk
    obtain ⟨g0, g1, g2⟩ := rowCells_get R n k hk'
    have e0 := hc _ _ (rowCells_get R n 0 (by omega)).1
    rw [Nat.zero_mul, Addr.add_zero'] at e0
    have hs : s = none := cell_spot e0
    subst hs
    have e1 := hc _ _ g0
    have e2 := hc _ _ g1
    have e3 := hc _ _ g2
    rw [Addr.add_lit] at e1 e2 e3
    exact ⟨b, off, rfl, e1, e2, e3⟩

theorem RdSt.start {w : World} {bi : Nat} {T : Nat → Tok} {I : Nat → Int} {R : Nat → RowD} {f : Hd} (hok : f.ok) (hcap : f.cap = f.n) (hr : RowsAt w f R) (hc : w.cell? ⟨bi, 3, none⟩ = some f.val) (hf : w.frozen? ⟨bi, 3, none⟩ = false) :
    ∃ own, RdSt w w bi f.n T I R f.val [] own f.val R := by
  obtain ⟨own, hg⟩ := gro_of (B := w.heap.size) hok hcap hr
  exact ⟨own, hc, hf, hg, fun _ => rfl, fun _ _ => rfl, fun k hk => absurd hk (Nat.not_lt_zero _), rfl, rfl, rfl, Nat.le_refl _, fun _ _ _ => rfl, fun _ _ => rfl⟩
end Go.Proofs.Qxb6603997a
