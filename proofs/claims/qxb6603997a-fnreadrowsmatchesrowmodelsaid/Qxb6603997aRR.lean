import Derived.Test.Qxb6603997aRQ
import Derived.Test.Qxb6603997aRD
import Derived.Deep.DeepCutAuto
import Derived.Deep.CutBlock
namespace Go.Proofs.Qxb6603997a
open Go.RowKit

theorem cl_opn {T : Nat → Tok} {n k : Nat} (d : Int) (hk : k < n) (h : opn T k = true) : cl T (n - k) d k = cl T (n - (k + 1)) (d + 1) (k + 1) := by
  rw [show n - k = (n - (k + 1)) + 1 by omega]
  show (if opn T k then _ else _) = _
  rw [if_pos h]
theorem cl_cls {T : Nat → Tok} {n k : Nat} (d : Int) (hk : k < n) (h : opn T k = false) (h2 : cls T k = true) : cl T (n - k) d k = if d - 1 = 0 then (k : Int) else cl T (n - (k + 1)) (d - 1) (k + 1) := by
  rw [show n - k = (n - (k + 1)) + 1 by omega]
  show (if opn T k then _ else if cls T k then _ else _) = _
  rw [if_neg (by simp [h]), if_pos h2]
theorem cl_oth {T : Nat → Tok} {n k : Nat} (d : Int) (hk : k < n) (h : opn T k = false) (h2 : cls T k = false) : cl T (n - k) d k = cl T (n - (k + 1)) d (k + 1) := by
  rw [show n - k = (n - (k + 1)) + 1 by omega]
  show (if opn T k then _ else if cls T k then _ else _) = _
  rw [if_neg (by simp [h]), if_neg (by simp [h2])]

/-- Where the pass with a stack stands: k tokens read, 'top' are open. -/
structure MInv (T : Nat → Tok) (n k top : Nat) (F : Nat → Int) (st : Nat → Nat) : Prop where
  lt : ∀ i, i < top → st i < k
  up : ∀ i j, i < j → j < top → st i < st j
  none : ∀ i, i < top → F (st i) = -1
  cl : ∀ i, i < top → cl T (n - st i) 0 (st i) = cl T (n - k) ((top : Int) - i) k
  all : ∀ j, j < k → opn T j = true → (∃ i, i < top ∧ st i = j) ∨ F j = Qxb6603997a.cl T (n - j) 0 j
  le : top ≤ k

theorem MInv.push {T : Nat → Tok} {n k top : Nat} {F : Nat → Int} {st : Nat → Nat} (h : MInv T n k top F st) (hk : k < n) (ho : opn T k = true) :
    MInv T n (k + 1) (top + 1) (fun j => if j = k then -1 else F j) (fun i => if i = top then k else st i) := by
  refine ⟨fun i hi => ?_, fun i j hij hj => ?_, fun i hi => ?_, fun i hi => ?_, fun j hj hoj => ?_, by have := h.le; omega⟩
  · show (if i = top then k else st i) < k + 1
    split
    · omega
    · have := h.lt i (by omega); omega
  · show (if i = top then k else st i) < (if j = top then k else st j)
    rw [if_neg (by omega)]
    split
    · exact h.lt i (by omega)
    · exact h.up i j hij (by omega)
  · show (if (if i = top then k else st i) = k then (-1 : Int) else F (if i = top then k else st i)) = -1
    by_cases e : i = top
    · rw [if_pos e, if_pos rfl]
    · have := h.lt i (by omega)
      rw [if_neg e, if_neg (by omega)]
      exact h.none i (by omega)
  · show Qxb6603997a.cl T (n - (if i = top then k else st i)) 0 (if i = top then k else st i) = _
    by_cases e : i = top
    · subst e
      rw [if_pos rfl, cl_opn 0 hk ho]
      congr 1
      omega
    · rw [if_neg e, h.cl i (by omega), cl_opn _ hk ho]
      congr 1
      omega
  · by_cases e : j = k
    · exact .inl ⟨top, by omega, by show (if top = top then k else st top) = j; rw [if_pos rfl, e]⟩
    · rcases h.all j (by omega) hoj with ⟨i, hi, hij⟩ | hf
      · exact .inl ⟨i, by omega, by show (if i = top then k else st i) = j; rw [if_neg (by omega)]; exact hij⟩
      · exact .inr (by show (if j = k then (-1 : Int) else F j) = _; rw [if_neg e]; exact hf)

theorem MInv.pop {T : Nat → Tok} {n k top : Nat} {F : Nat → Int} {st : Nat → Nat} (h : MInv T n k (top + 1) F st) (hk : k < n) (ho : opn T k = false) (hc : cls T k = true) :
    MInv T n (k + 1) top (fun j => if j = st top then (k : Int) else if j = k then -1 else F j) st := by
  have htk := h.lt top (by omega)
  refine ⟨fun i hi => ?_, fun i j hij hj => h.up i j hij (by omega), fun i hi => ?_, fun i hi => ?_, fun j hj hoj => ?_, by have := h.le; omega⟩
  · have := h.lt i (by omega); omega
  · have h1 := h.up i top hi (by omega)
    have h2 := h.lt i (by omega)
    show (if st i = st top then (k : Int) else if st i = k then -1 else F (st i)) = -1
    rw [if_neg (by omega), if_neg (by omega)]
    exact h.none i (by omega)
  · rw [h.cl i (by omega), cl_cls _ hk ho hc, if_neg (by omega)]
    congr 1
    omega
  · have hjk : j ≠ k := fun e => by subst e; rw [ho] at hoj; cases hoj
    by_cases e : j = st top
    · refine .inr ?_
      show (if j = st top then (k : Int) else if j = k then -1 else F j) = _
      rw [if_pos e, e, h.cl top (by omega), cl_cls _ hk ho hc, if_pos (by omega)]
    · rcases h.all j (by omega) hoj with ⟨i, hi, hij⟩ | hf
      · by_cases e2 : i = top
        · subst e2; exact absurd hij.symm e
        · exact .inl ⟨i, by omega, hij⟩
      · refine .inr ?_
        show (if j = st top then (k : Int) else if j = k then -1 else F j) = _
        rw [if_neg e, if_neg hjk]
        exact hf

theorem MInv.pass {T : Nat → Tok} {n k top : Nat} {F : Nat → Int} {st : Nat → Nat} (h : MInv T n k top F st) (hk : k < n) (ho : opn T k = false) (hc : cls T k = false ∨ top = 0) :
    MInv T n (k + 1) top (fun j => if j = k then -1 else F j) st := by
  refine ⟨fun i hi => ?_, h.up, fun i hi => ?_, fun i hi => ?_, fun j hj hoj => ?_, by have := h.le; omega⟩
  · have := h.lt i hi; omega
  · have := h.lt i hi
    show (if st i = k then (-1 : Int) else F (st i)) = -1
    rw [if_neg (by omega)]
    exact h.none i hi
  · rcases hc with hc | hc
    · rw [h.cl i hi, cl_oth _ hk ho hc]
    · omega
  · have hjk : j ≠ k := fun e => by subst e; rw [ho] at hoj; cases hoj
    rcases h.all j (by omega) hoj with ⟨i, hi, hij⟩ | hf
    · exact .inl ⟨i, hi, hij⟩
    · refine .inr ?_
      show (if j = k then (-1 : Int) else F j) = _
      rw [if_neg hjk]
      exact hf

theorem MInv.fin {T : Nat → Tok} {n top : Nat} {F : Nat → Int} {st : Nat → Nat} (h : MInv T n n top F st) (j : Nat) (hj : j < n) (ho : opn T j = true) : F j = Qxb6603997a.cl T (n - j) 0 j := by
  rcases h.all j hj ho with ⟨i, hi, hij⟩ | hf
  · have h1 := h.cl i hi
    have h2 := h.none i hi
    rw [Nat.sub_self] at h1
    rw [← hij, h1, h2]
    rfl
  · exact hf
end Go.Proofs.Qxb6603997a
