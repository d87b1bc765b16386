import Derived.Test.Qxb6603997aRY
namespace Go.Proofs.Qxb6603997a
open Go.RowKit

/-- The parts from s on, end to end. -/
def Chn (T : Nat → Tok) (I : Nat → Int) (m : Nat) : Nat → List (Nat × Nat) → Prop
  | _, [] => False
  | s, p :: rest => p.1 = s ∧ s ≤ p.2 ∧ p.2 ≤ m ∧ (∀ q, s ≤ q → q < p.2 → sepAt T I q = false) ∧ ((rest = [] ∧ p.2 = m) ∨ (p.2 < m ∧ sepAt T I p.2 = true ∧ Chn T I m (p.2 + 1) rest))

theorem sp_chn (T : Nat → Tok) (I : Nat → Int) (m : Nat) (hm : 0 < m) : ∀ (f k s : Nat), k + f = m → s ≤ k → (∀ q, s ≤ q → q < k → sepAt T I q = false) → Chn T I m s (sp T I m f k s)
  | 0, k, s, h, hs, hq => by
    unfold sp
    rw [if_pos hm]
    exact ⟨rfl, by show s ≤ m; omega, Nat.le_refl _, fun q h1 h2 => hq q h1 (by have : q < m := h2; omega), .inl ⟨rfl, rfl⟩⟩
  | f + 1, k, s, h, hs, hq => by
    unfold sp
    rcases Bool.eq_false_or_eq_true (sepAt T I k) with hk | hk
    · rw [if_pos hk]
      exact ⟨rfl, hs, by show k ≤ m; omega, hq, .inr ⟨by show k < m; omega, hk, sp_chn T I m hm f (k + 1) (k + 1) (by omega) (Nat.le_refl _) fun q h1 h2 => by omega⟩⟩
    · rw [if_neg (by simp [hk])]
      refine sp_chn T I m hm f (k + 1) s (by omega) (by omega) fun q h1 h2 => ?_
      by_cases e : q = k
      · subst e; exact hk
      · exact hq q h1 (by omega)

theorem sp_len (T : Nat → Tok) (I : Nat → Int) (m : Nat) : ∀ (f k s : Nat), (sp T I m f k s).length ≤ f + 1
  | 0, k, s => by unfold sp; split <;> simp
  | f + 1, k, s => by
    unfold sp
    split
    · have := sp_len T I m f (k + 1) (k + 1); simp; omega
    · have := sp_len T I m f (k + 1) s; omega

theorem sp_nil (T : Nat → Tok) (I : Nat → Int) : sp T I 0 0 0 0 = [] := rfl
theorem drop_getD {L : List (Nat × Nat)} {j : Nat} (h : j < L.length) : L.drop j = L.getD j (0, 0) :: L.drop (j + 1) := by
  rw [List.getD_eq_getElem?_getD, List.getElem?_eq_getElem h, List.drop_eq_getElem_cons h]; rfl
end Go.Proofs.Qxb6603997a
