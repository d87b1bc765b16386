import Derived.Test.Qxb6603997aRS
import Derived.Test.Qxb6603997aRU
namespace Go.Proofs.Qxb6603997a
open Go.RowKit

theorem cl_range (T : Nat → Tok) : ∀ (m : Nat) (d : Int) (k : Nat), cl T m d k = -1 ∨ ((k : Int) ≤ cl T m d k ∧ cl T m d k < k + m)
  | 0, _, _ => .inl rfl
  | m + 1, d, k => by
    unfold cl
    split
    · rcases cl_range T m (d + 1) (k + 1) with h | ⟨h1, h2⟩
      · exact .inl h
      · exact .inr ⟨by omega, by omega⟩
    · split
      · split
        · exact .inr ⟨by omega, by omega⟩
        · rcases cl_range T m (d - 1) (k + 1) with h | ⟨h1, h2⟩
          · exact .inl h
          · exact .inr ⟨by omega, by omega⟩
      · rcases cl_range T m d (k + 1) with h | ⟨h1, h2⟩
        · exact .inl h
        · exact .inr ⟨by omega, by omega⟩

/-- From an open parenthesis on: none, or behind it. -/
theorem cl_at {T : Nat → Tok} {n k : Nat} (hk : k < n) (ho : opn T k = true) : cl T (n - k) 0 k = -1 ∨ ∃ c : Nat, cl T (n - k) 0 k = c ∧ k < c ∧ c < n := by
  rw [cl_opn 0 hk ho]
  rcases cl_range T (n - (k + 1)) (0 + 1) (k + 1) with h | ⟨h1, h2⟩
  · exact .inl h
  · exact .inr ⟨(cl T (n - (k + 1)) (0 + 1) (k + 1)).toNat, by omega, by omega, by omega⟩

/-- The rows read from 'at' on: where the reading ends, and the pairs of parentheses. -/
def rd (T : Nat → Tok) (n : Nat) : Nat → Nat → Nat × List (Nat × Nat)
  | 0, at_ => (at_, [])
  | f + 1, at_ =>
    if at_ < n ∧ opn T at_ = true then
      (if cl T (n - at_) 0 at_ < 0 then (n, [])
      else if (cl T (n - at_) 0 at_).toNat + 1 < n ∧ cma T ((cl T (n - at_) 0 at_).toNat + 1) = true then
        ((rd T n f ((cl T (n - at_) 0 at_).toNat + 2)).1, (at_, (cl T (n - at_) 0 at_).toNat) :: (rd T n f ((cl T (n - at_) 0 at_).toNat + 2)).2)
      else ((cl T (n - at_) 0 at_).toNat + 1, [(at_, (cl T (n - at_) 0 at_).toNat)]))
    else (at_, [])

theorem rd_stop {T : Nat → Tok} {n : Nat} (f at_ : Nat) (h : ¬ (at_ < n ∧ opn T at_ = true)) : rd T n f at_ = (at_, []) := by
  cases f with
  | zero => rfl
  | succ f => unfold rd; rw [if_neg h]
theorem rd_open {T : Nat → Tok} {n f at_ : Nat} (h1 : at_ < n) (h2 : opn T at_ = true) (hc : cl T (n - at_) 0 at_ = -1) : rd T n (f + 1) at_ = (n, []) := by
  unfold rd; rw [if_pos ⟨h1, h2⟩, if_pos (by omega)]
theorem rd_more {T : Nat → Tok} {n f at_ c : Nat} (h1 : at_ < n) (h2 : opn T at_ = true) (hc : cl T (n - at_) 0 at_ = c) (h3 : c + 1 < n) (h4 : cma T (c + 1) = true) : rd T n (f + 1) at_ = ((rd T n f (c + 2)).1, (at_, c) :: (rd T n f (c + 2)).2) := by
  conv => lhs; unfold rd
  rw [if_pos ⟨h1, h2⟩, if_neg (by omega), hc, Int.toNat_natCast, if_pos ⟨h3, h4⟩]
theorem rd_last {T : Nat → Tok} {n f at_ c : Nat} (h1 : at_ < n) (h2 : opn T at_ = true) (hc : cl T (n - at_) 0 at_ = c) (h3 : ¬ (c + 1 < n ∧ cma T (c + 1) = true)) : rd T n (f + 1) at_ = (c + 1, [(at_, c)]) := by
  conv => lhs; unfold rd
  rw [if_pos ⟨h1, h2⟩, if_neg (by omega), hc, Int.toNat_natCast, if_neg h3]

theorem ownsRow_of_block {w w' : World} {base size n : Nat} {e : TypeId} {v : Value} {xs : List Value} (h : w.ownsRow base e size v n xs) (hb : ∀ g, v.ownBlock = some g → w'.heap[g]? = w.heap[g]?) : w'.ownsRow base e size v n xs := by
  obtain ⟨h1, h2⟩ := h
  refine ⟨h1, ?_⟩
  rcases h2 with h2 | ⟨g, cap, cur, rfl, r1, r2, r3⟩
  · exact .inl h2
  · exact .inr ⟨g, cap, cur, rfl, r1, (hb g rfl).trans r2, r3⟩
/-- Two own slices lie apart. -/
def Apart (v u : Value) : Prop := ∀ g, v.ownBlock = some g → u.ownBlock ≠ some g
theorem Apart.fr {w : World} {v v' u : Value} (h : Apart v u) (f : Fr w v v') (hu : ∀ g, u.ownBlock = some g → g < w.heap.size) : Apart v' u := by
  intro g hg
  rcases f with f | ⟨g', e, hl⟩
  · exact h g (by rw [← f]; exact hg)
  · rw [e] at hg
    cases hg
    intro e2
    have := hu _ e2
    omega
theorem Apart.symm {v u : Value} (h : Apart v u) : Apart u v := fun g hg e => h g e hg
end Go.Proofs.Qxb6603997a
