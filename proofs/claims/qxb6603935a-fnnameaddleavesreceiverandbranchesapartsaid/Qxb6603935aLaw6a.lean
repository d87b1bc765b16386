import Derived.Test.Qxb6603935aLink2
import Derived.Test.Qxb6603935aBuild
namespace Go.Proofs.Qxb6603935a
open Go.RowKit

/-! ### The covering tail, plainly -/
def findT (s : ByteArray) (i : Nat) : List ByteArray → List ByteArray
  | [] => []
  | t :: r => if i < ln s r then findT s i r else t :: r

theorem tails_findL (s : ByteArray) (i : Nat) : ∀ l, tails (findL s i l) = findT s i (tails l)
  | [] => rfl
  | (b, t) :: r => by
    have ih := tails_findL s i r
    simp only [findL]
    show _ = findT s i (t :: tails r)
    simp only [findT]
    split
    · exact ih
    · rfl

/-- What 'ZZNameLink' answers. -/
def LinkAns (s : ByteArray) (us : List ByteArray) (i : Nat) (nl : Bool) (bl : Nat) (tl : ByteArray) : Prop :=
  (i < s.size ∧ nl = true) ∨ (s.size ≤ i ∧ nl = false ∧ ∃ r, findT s i us = tl :: r ∧ bl = ln s r)

theorem zzlink_any (s : ByteArray) (l : List (Nat × ByteArray)) (i : Nat) (w : World) (hc : Chain w s l) (hil : i < ln s (tails l)) (hn : ln s (tails l) ≤ 2097152) :
    Calls Try.prog 19 #[.agg #[.string s, .pointer (hp l)], .int .i64 (i : Int)] w fun e w' => ∃ (nl : Bool) (bl : Nat) (tl : ByteArray), e = .returned (.tuple #[.bool nl, .int .i64 (bl : Int), .string tl]) ∧ LinkAns s (tails l) i nl bl tl ∧ Below w.heap.size w w' := by
  by_cases hi : i < s.size
  · refine (zzlink_start s (hp l) i w (by have := ln_ge s (tails l); omega) hi).mono ?_
    rintro e w' ⟨rfl, hb⟩
    exact ⟨true, 0, ⟨#[]⟩, rfl, .inl ⟨hi, rfl⟩, hb⟩
  · obtain ⟨b, t, r, hf, hsuf, h3, h4⟩ := findL_spec s i (by omega) l hil
    refine (zzlink_in s t l r b i w hc (by omega) hil hn hf hsuf).mono ?_
    rintro e w' ⟨rfl, hb⟩
    refine ⟨false, _, t, rfl, .inr ⟨by omega, rfl, tails r, ?_, rfl⟩, hb⟩
    rw [← tails_findL, hf]; rfl

/-- What the law's own loop has gathered. -/
def FoundAt (s : ByteArray) (us : List ByteArray) (i : Nat) (f : Bool) (wo : Nat) (wt : ByteArray) : Prop :=
  (s.size ≤ i ∧ i < ln s us ∧ f = true ∧ ∃ r, findT s i us = wt :: r ∧ wo = ln s r) ∨ (¬ (s.size ≤ i ∧ i < ln s us) ∧ f = false)

theorem found_start (s : ByteArray) (i : Nat) : FoundAt s [] i false 0 ⟨#[]⟩ := .inr ⟨by simp only [ln]; omega, rfl⟩

theorem found_spelled (s t : ByteArray) (us : List ByteArray) (i : Nat) (f : Bool) (wo : Nat) (wt : ByteArray) (h0 : us = []) (h1 : s.size + t.size ≤ 256) (h : FoundAt s us i f wo wt) :
    FoundAt (addN s us t).1 (addN s us t).2 i f wo wt := by
  subst h0
  have e : addN s [] t = (s ++ t, []) := by simp [addN, h1]
  rw [e]
  rcases h with ⟨a, b, _⟩ | ⟨_, hf⟩
  · simp only [ln] at b; omega
  · exact .inr ⟨by simp only [ln]; omega, hf⟩

theorem found_hit (s t : ByteArray) (us : List ByteArray) (i : Nat) (h : ¬ (us = [] ∧ s.size + t.size ≤ 256)) (h1 : ln s us ≤ i) (h2 : i < ln s us + t.size) :
    FoundAt (addN s us t).1 (addN s us t).2 i true (ln s us) t := by
  have e : addN s us t = (s, t :: us) := by unfold addN; rw [if_neg h]
  rw [e]
  have := ln_ge s us
  exact .inl ⟨by simp only; omega, by simp only [ln]; omega, rfl, us, by simp only [findT]; rw [if_neg (by omega)], rfl⟩

theorem found_miss (s t : ByteArray) (us : List ByteArray) (i : Nat) (f : Bool) (wo : Nat) (wt : ByteArray) (h : ¬ (us = [] ∧ s.size + t.size ≤ 256)) (h1 : i < ln s us ∨ ln s us + t.size ≤ i) (hf : FoundAt s us i f wo wt) :
    FoundAt (addN s us t).1 (addN s us t).2 i f wo wt := by
  have e : addN s us t = (s, t :: us) := by unfold addN; rw [if_neg h]
  rw [e]
  rcases hf with ⟨a, b, c, r, hr, hw⟩ | ⟨a, c⟩
  · refine .inl ⟨a, by simp only [ln]; omega, c, r, ?_, hw⟩
    simp only [findT]; rw [if_pos b]; exact hr
  · refine .inr ⟨?_, c⟩
    simp only [ln]; omega

/-- At the end the two answers agree. -/
theorem found_end (s : ByteArray) (us : List ByteArray) (i : Nat) (hil : i < ln s us) (nl : Bool) (bl : Nat) (tl : ByteArray) (f : Bool) (wo : Nat) (wt : ByteArray) (h1 : LinkAns s us i nl bl tl) (h2 : FoundAt s us i f wo wt) :
    (i < s.size ∧ nl = true) ∨ (s.size ≤ i ∧ f = true ∧ nl = false ∧ bl = wo ∧ tl = wt) := by
  rcases h1 with h1 | ⟨a, b, r, hr, hb⟩
  · exact .inl h1
  · rcases h2 with ⟨_, _, c, r2, hr2, hw⟩ | ⟨h, _⟩
    · rw [hr] at hr2
      obtain ⟨rfl, rfl⟩ := List.cons.inj hr2
      exact .inr ⟨a, c, b, by rw [hb, hw], rfl⟩
    · exact absurd ⟨a, hil⟩ h

theorem addN_size (s : ByteArray) (us : List ByteArray) (t : ByteArray) : ((addN s us t).1.size = if us = [] ∧ s.size + t.size ≤ 256 then s.size + t.size else s.size) ∧ ((addN s us t).2.isEmpty = if us = [] ∧ s.size + t.size ≤ 256 then true else false) := by
  unfold addN; split <;> simp

/-- The law's second loop, at its c-th round. -/
def Loop2 (s : ByteArray) (ts : List ByteArray) (j c so : Nat) (lb : Bool) (oo : Nat) (fb : Bool) (won : Nat) (wts : ByteArray) : Prop :=
  so = (buildN s (ts.take c)).1.size ∧ lb = !(buildN s (ts.take c)).2.isEmpty ∧ oo = ln (buildN s (ts.take c)).1 (buildN s (ts.take c)).2 ∧ FoundAt (buildN s (ts.take c)).1 (buildN s (ts.take c)).2 j fb won wts

theorem loop2_start (s : ByteArray) (ts : List ByteArray) (j : Nat) : Loop2 s ts j 0 s.size false s.size false 0 ⟨#[]⟩ :=
  ⟨rfl, rfl, rfl, found_start s j⟩

theorem loop2_bound {s : ByteArray} {ts : List ByteArray} {j c so oo won : Nat} {lb fb : Bool} {wts : ByteArray} (h : Loop2 s ts j c so lb oo fb won wts) (hc : c < ts.length) : so ≤ oo ∧ oo + (ts.getD c ByteArray.empty).size ≤ s.size + tot 0 ts := by
  obtain ⟨h1, _, h3, _⟩ := h
  have e1 := ln_buildN s (ts.take c)
  have e2 := tot_next 0 ts c hc
  have e3 := tot_take 0 ts (c + 1)
  have e4 := ln_ge (buildN s (ts.take c)).1 (buildN s (ts.take c)).2
  omega

theorem loop2_spelled {s : ByteArray} {ts : List ByteArray} {j c so oo won : Nat} {fb : Bool} {wts : ByteArray} (h : Loop2 s ts j c so false oo fb won wts) (hc : c < ts.length) (t : ByteArray) (ht : t = ts.getD c ByteArray.empty) (h1 : so + t.size ≤ 256) :
    Loop2 s ts j (c + 1) (so + t.size) false (oo + t.size) fb won wts := by
  obtain ⟨rfl, h2, rfl, h4⟩ := h
  have hn := buildN_next s ts c hc
  rw [← ht] at hn
  have h0 : (buildN s (ts.take c)).2 = [] := by simpa using h2
  have ea := addN_size (buildN s (ts.take c)).1 (buildN s (ts.take c)).2 t
  rw [if_pos ⟨h0, h1⟩, if_pos ⟨h0, h1⟩] at ea
  unfold Loop2
  rw [hn]
  exact ⟨ea.1.symm, by rw [ea.2]; rfl, (ln_addN _ _ _).symm, found_spelled _ _ _ _ _ _ _ h0 h1 h4⟩

theorem loop2_hit {s : ByteArray} {ts : List ByteArray} {j c so oo won : Nat} {lb fb : Bool} {wts : ByteArray} (h : Loop2 s ts j c so lb oo fb won wts) (hc : c < ts.length) (t : ByteArray) (ht : t = ts.getD c ByteArray.empty) (h1 : lb = true ∨ 256 < so + t.size)
    (h5 : oo ≤ j) (h6 : j < oo + t.size) : Loop2 s ts j (c + 1) so true (oo + t.size) true oo t := by
  obtain ⟨rfl, h2, rfl, h4⟩ := h
  have hn := buildN_next s ts c hc
  rw [← ht] at hn
  have h0 : ¬ ((buildN s (ts.take c)).2 = [] ∧ (buildN s (ts.take c)).1.size + t.size ≤ 256) := by
    rintro ⟨a, b⟩
    rcases h1 with h | h
    · rw [h, a] at h2; simp at h2
    · omega
  have ea := addN_size (buildN s (ts.take c)).1 (buildN s (ts.take c)).2 t
  rw [if_neg h0, if_neg h0] at ea
  unfold Loop2
  rw [hn]
  exact ⟨ea.1.symm, by rw [ea.2]; rfl, (ln_addN _ _ _).symm, found_hit _ _ _ _ h0 h5 h6⟩

theorem loop2_miss {s : ByteArray} {ts : List ByteArray} {j c so oo won : Nat} {lb fb : Bool} {wts : ByteArray} (h : Loop2 s ts j c so lb oo fb won wts) (hc : c < ts.length) (t : ByteArray) (ht : t = ts.getD c ByteArray.empty) (h1 : lb = true ∨ 256 < so + t.size)
    (h5 : j < oo ∨ oo + t.size ≤ j) : Loop2 s ts j (c + 1) so true (oo + t.size) fb won wts := by
  obtain ⟨rfl, h2, rfl, h4⟩ := h
  have hn := buildN_next s ts c hc
  rw [← ht] at hn
  have h0 : ¬ ((buildN s (ts.take c)).2 = [] ∧ (buildN s (ts.take c)).1.size + t.size ≤ 256) := by
    rintro ⟨a, b⟩
    rcases h1 with h | h
    · rw [h, a] at h2; simp at h2
    · omega
  have ea := addN_size (buildN s (ts.take c)).1 (buildN s (ts.take c)).2 t
  rw [if_neg h0, if_neg h0] at ea
  unfold Loop2
  rw [hn]
  exact ⟨ea.1.symm, by rw [ea.2]; rfl, (ln_addN _ _ _).symm, found_miss _ _ _ _ _ _ _ h0 h5 h4⟩

theorem loop2_end {s : ByteArray} {ts : List ByteArray} {j c so oo won bl : Nat} {lb fb nl : Bool} {wts tl s' : ByteArray} {us : List ByteArray} (h : Loop2 s ts j c so lb oo fb won wts) (hc : c = ts.length) (hb : (s', us) = buildN s ts) (hj : j < ln s' us) (ha : LinkAns s' us j nl bl tl) :
    (j < so ∧ nl = true) ∨ (so ≤ j ∧ fb = true ∧ nl = false ∧ bl = won ∧ tl = wts) := by
  subst hc
  obtain ⟨h1, h2, h3, h4⟩ := h
  rw [List.take_length] at h1 h4
  rw [← hb] at h1 h4
  rw [h1]
  exact found_end s' us j hj nl bl tl fb won wts ha h4
end Go.Proofs.Qxb6603935a
