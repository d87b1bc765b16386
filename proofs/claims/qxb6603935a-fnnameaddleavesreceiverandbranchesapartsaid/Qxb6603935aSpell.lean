import Derived.Test.Qxb6603935aLaw6a
namespace Go.Proofs.Qxb6603935a
open Go.RowKit

/-! ### What a name spells, as a list of bytes -/
def spellN (s : ByteArray) : List ByteArray → List UInt8
  | [] => s.data.toList
  | t :: r => spellN s r ++ t.data.toList

theorem size_list (s : ByteArray) : s.data.toList.length = s.size := by rw [Array.length_toList]; rfl

theorem spellN_length (s : ByteArray) : ∀ us, (spellN s us).length = ln s us
  | [] => size_list s
  | t :: r => by simp only [spellN, List.length_append, ln, spellN_length s r, size_list]

theorem spellN_addN (s : ByteArray) (us : List ByteArray) (t : ByteArray) : spellN (addN s us t).1 (addN s us t).2 = spellN s us ++ t.data.toList := by
  unfold addN
  split
  · rename_i h; simp [h.1, spellN]
  · simp [spellN]

/-- start, then the tails: the law's own model. -/
def modelL (s : ByteArray) (ts : List ByteArray) : List UInt8 := ts.foldl (fun a t => a ++ t.data.toList) s.data.toList

theorem spell_fold (s : ByteArray) (us : List ByteArray) : ∀ ts : List ByteArray, spellN (ts.foldl (fun a t => addN a.1 a.2 t) (s, us)).1 (ts.foldl (fun a t => addN a.1 a.2 t) (s, us)).2 = ts.foldl (fun a t => a ++ t.data.toList) (spellN s us) := by
  intro ts
  induction ts generalizing s us with
  | nil => rfl
  | cons t r ih =>
    rw [List.foldl_cons, List.foldl_cons]
    have h := ih (addN s us t).1 (addN s us t).2
    rw [spellN_addN] at h
    exact h
theorem spell_buildN (s : ByteArray) (ts : List ByteArray) : spellN (buildN s ts).1 (buildN s ts).2 = modelL s ts := spell_fold s [] ts

theorem modelL_next (s : ByteArray) (ts : List ByteArray) (k : Nat) (h : k < ts.length) : modelL s (ts.take (k + 1)) = modelL s (ts.take k) ++ (ts.getD k ByteArray.empty).data.toList := by
  rw [take_next ts k h]; simp [modelL]
theorem modelL_length (s : ByteArray) (ts : List ByteArray) : (modelL s ts).length = s.size + tot 0 ts := by
  rw [← spell_buildN, spellN_length, ln_buildN]

/-- The part that covers byte i: what is left of it from i on. -/
def partOf (s : ByteArray) (us : List ByteArray) (i : Nat) : ByteArray :=
  if i < s.size then s.extract i s.size else
    match findT s i us with
    | [] => ByteArray.empty
    | t :: r => t.extract (i - ln s r) t.size

theorem extract_list (t : ByteArray) (i : Nat) : (t.extract i t.size).data.toList = t.data.toList.drop i := by
  rw [ByteArray.data_extract, Array.toList_extract, List.extract_eq_take_drop, List.take_of_length_le]
  rw [List.length_drop, size_list]; omega

theorem spell_prefix (s : ByteArray) : ∀ us, s.data.toList <+: spellN s us
  | [] => List.prefix_refl _
  | _ :: r => (spell_prefix s r).trans (List.prefix_append _ _)

theorem findT_spec (s : ByteArray) (i : Nat) (h1 : s.size ≤ i) : ∀ us, i < ln s us → ∃ t r, findT s i us = t :: r ∧ ln s r ≤ i ∧ i < ln s r + t.size ∧ (spellN s r ++ t.data.toList) <+: spellN s us
  | [], h => absurd h (by simp only [ln]; omega)
  | t :: r, h => by
    by_cases hr : i < ln s r
    · obtain ⟨t2, r2, e, h3, h4, h5⟩ := findT_spec s i h1 r hr
      exact ⟨t2, r2, by simp only [findT]; rw [if_pos hr]; exact e, h3, h4, h5.trans (List.prefix_append _ _)⟩
    · exact ⟨t, r, by simp only [findT]; rw [if_neg hr], by omega, by simpa [ln] using h, List.prefix_refl _⟩

/-- The part is not empty and is what stands at i. -/
theorem part_spec (s : ByteArray) (us : List ByteArray) (i : Nat) (hi : i < ln s us) : 0 < (partOf s us i).size ∧ (partOf s us i).data.toList <+: (spellN s us).drop i := by
  unfold partOf
  by_cases h : i < s.size
  · rw [if_pos h]
    constructor
    · rw [← size_list, extract_list, List.length_drop, size_list]; omega
    · rw [extract_list]
      obtain ⟨x, hx⟩ := spell_prefix s us
      rw [← hx, List.drop_append_of_le_length (by rw [size_list]; omega)]
      exact List.prefix_append _ _
  · rw [if_neg h]
    obtain ⟨t, r, e, h3, h4, x, hx⟩ := findT_spec s i (by omega) us hi
    rw [e]
    constructor
    · rw [← size_list, extract_list, List.length_drop, size_list]; omega
    · rw [extract_list, ← hx]
      have hl := spellN_length s r
      rw [List.append_assoc, List.drop_append, List.drop_of_length_le (l := spellN s r) (by omega), List.nil_append, hl, List.drop_append_of_le_length (by rw [size_list]; omega)]
      exact List.prefix_append _ _

/-! ### The comparison, part by part -/
/-- One part compared: m bytes from k on. -/
theorem cmp_step (P X Q : List UInt8) (k m : Nat) (hm : m = min Q.length (P.length - k)) (hk : k ≤ P.length) (h : P.take k = X.take k) (hq : Q <+: X.drop k) :
    (Q.take m = (P.drop k).take m → P.take (k + m) = X.take (k + m)) ∧ (Q.take m ≠ (P.drop k).take m → ¬ P <+: X) := by
  obtain ⟨x, hx⟩ := hq
  have e1 : (X.drop k).take m = Q.take m := by
    rw [← hx, List.take_append_of_le_length (by omega)]
  have e2 : X.take (k + m) = X.take k ++ (X.drop k).take m := by rw [List.take_add]
  have e3 : P.take (k + m) = P.take k ++ (P.drop k).take m := by rw [List.take_add]
  constructor
  · intro hh
    rw [e2, e3, e1, h, hh]
  · intro hh hp
    apply hh
    obtain ⟨y, hy⟩ := hp
    rw [← e1, ← hy, List.drop_append_of_le_length hk, List.take_append_of_le_length (by rw [List.length_drop]; omega)]

theorem cmp_end (P X : List UInt8) (h : P.take P.length = X.take P.length) : P <+: X := by
  rw [List.take_length] at h
  rw [h]
  exact List.take_prefix _ _

/-- Whether p begins what the name spells. -/
def pre (P X : List UInt8) : Bool := P.isPrefixOf X
theorem pre_true {P X : List UInt8} (h : P <+: X) : pre P X = true := List.isPrefixOf_iff_prefix.2 h
theorem pre_false {P X : List UInt8} (h : ¬ P <+: X) : pre P X = false := by
  cases e : pre P X
  · rfl
  · exact absurd (List.isPrefixOf_iff_prefix.1 e) h
theorem pre_iff {P X : List UInt8} : pre P X = true ↔ P <+: X := List.isPrefixOf_iff_prefix
theorem pre_long {P X : List UInt8} (h : X.length < P.length) : pre P X = false := pre_false fun hp => by have := hp.length_le; omega
end Go.Proofs.Qxb6603935a
