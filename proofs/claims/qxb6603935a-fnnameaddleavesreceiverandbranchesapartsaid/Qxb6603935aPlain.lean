import Derived.Test.Qxb6603935aRows
import Derived.WalkKit
import Derived.WalkSpells
import Derived.WalkLawsBesides
namespace Go.Proofs.Qxb6603935a
open Go.RowKit

/-! ### THE CHAIN OF LINKS IN MEMORY. A long name is a chain, the newest link first: each link is its block's number and its tail. -/
def hp : List (Nat × ByteArray) → Option Addr
  | [] => none
  | (b, _) :: _ => some ⟨b, 0, none⟩

/-- The whole name's length. -/
def ln (s : ByteArray) : List ByteArray → Nat
  | [] => s.size
  | t :: r => ln s r + t.size

def tails (l : List (Nat × ByteArray)) : List ByteArray := l.map (fun x => x.2)

/-- The chain lies in the world. -/
def Chain (w : World) (s : ByteArray) : List (Nat × ByteArray) → Prop
  | [] => True
  | (b, t) :: r => w.cell? ⟨b, 0, none⟩ = some (.string s) ∧ w.cell? ⟨b, 1, none⟩ = some (.pointer (hp r)) ∧ w.cell? ⟨b, 2, none⟩ = some (.string t) ∧
      w.cell? ⟨b, 3, none⟩ = some (.int .i64 ((ln s (tails r) + t.size : Nat) : Int)) ∧ (∃ d : Int, w.cell? ⟨b, 4, none⟩ = some (.int .i64 d)) ∧
      (∃ u, u <:+ r ∧ w.cell? ⟨b, 5, none⟩ = some (.pointer (hp u))) ∧ Chain w s r

theorem cell_lt {w : World} {b o : Nat} {v : Value} (h : w.cell? ⟨b, o, none⟩ = some v) : b < w.heap.size := by
  by_cases hb : b < w.heap.size
  · exact hb
  · exfalso
    have : w.heap[b]? = none := by simp; omega
    simp [World.cell?, this] at h

theorem Chain.below {w w' : World} (hb : Below w.heap.size w w') {s : ByteArray} : ∀ {l : List (Nat × ByteArray)}, Chain w s l → Chain w' s l
  | [], _ => trivial
  | (b, t) :: r, ⟨c0, c1, c2, c3, ⟨d, c4⟩, ⟨u, hu, c5⟩, hr⟩ => by
    have hlt := cell_lt c0
    have e := fun (o : Nat) => hb.cell (p := ⟨b, o, none⟩) hlt
    exact ⟨(e 0).trans c0, (e 1).trans c1, (e 2).trans c2, (e 3).trans c3, ⟨d, (e 4).trans c4⟩, ⟨u, hu, (e 5).trans c5⟩, Chain.below hb hr⟩

theorem Chain.suffix {w : World} {s : ByteArray} : ∀ {l u : List (Nat × ByteArray)}, Chain w s l → u <:+ l → Chain w s u := by
  intro l
  induction l with
  | nil => intro u _ hu; have := List.suffix_nil.1 hu; subst this; trivial
  | cons x r ih =>
    intro u h hu
    rcases List.suffix_cons_iff.1 hu with rfl | hu
    · exact h
    · exact ih h.2.2.2.2.2.2 hu

/-- What 'Add' makes of a name: the spelled-out start and the tails, the newest first. -/
def addN (s : ByteArray) (ts : List ByteArray) (t : ByteArray) : ByteArray × List ByteArray :=
  if ts = [] ∧ s.size + t.size ≤ 256 then (s ++ t, []) else (s, t :: ts)

theorem ln_ge (s : ByteArray) : ∀ ts, s.size ≤ ln s ts
  | [] => Nat.le_refl _
  | t :: r => by have := ln_ge s r; simp only [ln]; omega

theorem ln_suffix (s : ByteArray) : ∀ {ts us : List ByteArray}, us <:+ ts → ln s us ≤ ln s ts := by
  intro ts
  induction ts with
  | nil => intro us h; have := List.suffix_nil.1 h; subst this; exact Nat.le_refl _
  | cons t r ih =>
    intro us h
    rcases List.suffix_cons_iff.1 h with rfl | h
    · exact Nat.le_refl _
    · have := ih h; simp only [ln]; omega

theorem ln_addN (s : ByteArray) (ts : List ByteArray) (t : ByteArray) : ln (addN s ts t).1 (addN s ts t).2 = ln s ts + t.size := by
  unfold addN
  split
  · rename_i h; simp [h.1, ln]
  · simp [ln]

/-- The links from the one that covers byte i on. -/
def findL (s : ByteArray) (i : Nat) : List (Nat × ByteArray) → List (Nat × ByteArray)
  | [] => []
  | (b, t) :: r => if i < ln s (tails r) then findL s i r else (b, t) :: r

theorem findL_suffix (s : ByteArray) (i : Nat) : ∀ {l u : List (Nat × ByteArray)}, u <:+ l → i < ln s (tails u) → findL s i l = findL s i u := by
  intro l
  induction l with
  | nil => intro u h _; have := List.suffix_nil.1 h; subst this; rfl
  | cons x r ih =>
    intro u h hi
    rcases List.suffix_cons_iff.1 h with rfl | h1
    · rfl
    · have h2 : tails u <:+ tails r := by obtain ⟨p, rfl⟩ := h1; exact ⟨tails p, by simp [tails]⟩
      have := ln_suffix s h2
      obtain ⟨b, t⟩ := x
      simp only [findL]
      rw [if_pos (by omega)]
      exact ih h1 hi

end Go.Proofs.Qxb6603935a
