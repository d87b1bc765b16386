import Derived.Test.Qxb6603997aRows
import Derived.WalkKit
import Derived.WalkSpells
import Derived.WalkLawsBesides
namespace Go.Proofs.Qxb6603997a
open Go.RowKit

/-! ### Bytes, plainly -/
def isD (n : Nat) : Bool := decide (48 ≤ n) && decide (n ≤ 57)
def isH (n : Nat) : Bool := isD n || (decide (97 ≤ n) && decide (n ≤ 102)) || (decide (65 ≤ n) && decide (n ≤ 70))
def isE (n : Nat) : Bool := decide (n = 101) || decide (n = 69)
def isS (n : Nat) : Bool := decide (n = 43) || decide (n = 45)

/-- The law's own machine: one step. -/
def stepN (st c : Nat) : Nat :=
  if st = 1 then (if c = 48 then 2 else if isD c then 5 else if c = 46 then 6 else if isE c then 7 else 0)
  else if st = 2 then (if c = 120 ∨ c = 98 then 3 else if isD c then 5 else if c = 46 then 6 else if isE c then 7 else 0)
  else if st = 3 ∨ st = 4 then (if isH c then 4 else 0)
  else if st = 5 then (if isD c then 5 else if c = 46 then 6 else if isE c then 7 else 0)
  else if st = 6 then (if isD c then 6 else if isE c then 7 else 0)
  else if st = 7 then (if isS c then 8 else if isD c then 9 else 0)
  else if st = 8 ∨ st = 9 then (if isD c then 9 else 0)
  else 0
def accN (st : Nat) : Bool := st = 1 || st = 2 || st = 4 || st = 5 || st = 6 || st = 9

/-- The machine from state st on, at byte k, the last end that was accepted being 'last'. -/
def auto : Nat → List UInt8 → Nat → Nat → Nat
  | _, [], _, last => last
  | st, c :: r, k, last => if stepN st c.toNat = 0 then last else auto (stepN st c.toNat) r (k + 1) (if accN (stepN st c.toNat) then k + 1 else last)

def hd (l : List UInt8) : Nat := (l.headD 0).toNat
def cnt (p : Nat → Bool) : List UInt8 → Nat
  | [] => 0
  | c :: r => if p c.toNat then cnt p r + 1 else 0

/-- What follows behind an 'e': from its next byte on; else n. -/
def expT (r : List UInt8) (k n : Nat) : Nat :=
  if isS (hd r) then (if isD (hd r.tail) then k + 1 + cnt isD r.tail else n) else if isD (hd r) then k + cnt isD r else n
/-- An exponent at n, if there is one. -/
def expA (r : List UInt8) (n : Nat) : Nat := if isE (hd r) then expT r.tail (n + 1) n else n
/-- A fraction at n, if there is one; then an exponent. -/
def fracA (r : List UInt8) (n : Nat) : Nat :=
  if hd r = 46 then expA (r.tail.drop (cnt isD r.tail)) (n + 1 + cnt isD r.tail) else expA r n
def decA (r : List UInt8) (n : Nat) : Nat := fracA (r.drop (cnt isD r)) (n + cnt isD r)

theorem auto9 : ∀ (r : List UInt8) (k : Nat), auto 9 r k k = k + cnt isD r
  | [], k => rfl
  | c :: r, k => by
    have ih := auto9 r (k + 1)
    by_cases h : isD c.toNat = true
    · simp [auto, stepN, cnt, h, accN, ih]; omega
    · simp [auto, stepN, cnt, h]
theorem auto8 (r : List UInt8) (k last : Nat) : auto 8 r k last = if isD (hd r) then k + cnt isD r else last := by
  cases r with
  | nil => simp [auto, hd, isD]
  | cons c r =>
    have ih := auto9 r (k + 1)
    by_cases h : isD c.toNat = true
    · simp [auto, stepN, cnt, h, accN, ih, hd]; omega
    · simp [auto, stepN, h, hd]
theorem auto7 (r : List UInt8) (k last : Nat) : auto 7 r k last = expT r k last := by
  cases r with
  | nil => simp [auto, expT, hd, isD, isS]
  | cons c r =>
    have ih := auto9 r (k + 1)
    have ih8 := auto8 r (k + 1) last
    by_cases hs : isS c.toNat = true
    · simp [auto, stepN, hs, accN, ih8, hd, expT]
    · by_cases h : isD c.toNat = true
      · simp [auto, stepN, hs, h, accN, ih, hd, expT, cnt]; omega
      · simp [auto, stepN, hs, h, hd, expT]
theorem auto6 : ∀ (r : List UInt8) (k : Nat), auto 6 r k k = expA (r.drop (cnt isD r)) (k + cnt isD r)
  | [], k => by simp [auto, expA, hd, isE, cnt]
  | c :: r, k => by
    have ih := auto6 r (k + 1)
    have ih7 := auto7 r (k + 1) k
    by_cases h : isD c.toNat = true
    · simp [auto, stepN, cnt, h, accN, ih]; congr 1; omega
    · by_cases he : isE c.toNat = true
      · simp [auto, stepN, cnt, h, he, accN, ih7, expA, hd]
      · simp [auto, stepN, cnt, h, he, expA, hd]
theorem frac_of (c : UInt8) (r : List UInt8) (k : Nat) :
    (if c.toNat = 46 then auto 6 r (k + 1) (k + 1) else if isE c.toNat then auto 7 r (k + 1) k else k) = fracA (c :: r) k := by
  have e : hd (c :: r) = c.toNat := rfl
  unfold fracA
  rw [e]
  by_cases hp : c.toNat = 46
  · rw [if_pos hp, if_pos hp, auto6]; rfl
  · rw [if_neg hp, if_neg hp, auto7]; unfold expA; rw [e]; rfl
theorem auto5 : ∀ (r : List UInt8) (k : Nat), auto 5 r k k = decA r k
  | [], k => by simp [auto, decA, fracA, expA, hd, isE, cnt]
  | c :: r, k => by
    have ih := auto5 r (k + 1)
    by_cases h : isD c.toNat = true
    · have e : decA (c :: r) k = decA r (k + 1) := by simp [decA, cnt, h]; congr 1; omega
      rw [e, ← ih]
      simp [auto, stepN, h, accN]
    · have h' : isD c.toNat = false := by simpa using h
      have e : decA (c :: r) k = fracA (c :: r) k := by simp [decA, cnt, h']
      rw [e, ← frac_of c r k]
      by_cases hp : c.toNat = 46
      · simp [auto, stepN, hp, accN, isD]
      · by_cases he : isE c.toNat = true
        · simp [auto, stepN, h', hp, he, accN]
        · simp [auto, stepN, h', hp, he]
theorem auto4 : ∀ (r : List UInt8) (k : Nat), auto 4 r k k = k + cnt isH r
  | [], k => rfl
  | c :: r, k => by
    have ih := auto4 r (k + 1)
    by_cases h : isH c.toNat = true
    · simp [auto, stepN, cnt, h, accN, ih]; omega
    · simp [auto, stepN, cnt, h]
theorem auto3 (r : List UInt8) (k last : Nat) : auto 3 r k last = if isH (hd r) then k + cnt isH r else last := by
  cases r with
  | nil => simp [auto, hd, isH, isD]
  | cons c r =>
    have ih := auto4 r (k + 1)
    by_cases h : isH c.toNat = true
    · simp [auto, stepN, cnt, h, accN, ih, hd]; omega
    · simp [auto, stepN, h, hd]
theorem auto2 (r : List UInt8) (k : Nat) : auto 2 r k k = if hd r = 120 ∨ hd r = 98 then (if isH (hd r.tail) then k + 1 + cnt isH r.tail else k) else decA r k := by
  cases r with
  | nil => simp [auto, hd, decA, fracA, expA, isE, cnt]
  | cons c r =>
    have e : hd (c :: r) = c.toNat := rfl
    rw [e]
    by_cases hx : c.toNat = 120 ∨ c.toNat = 98
    · have ih := auto3 r (k + 1) k
      rw [if_pos hx]
      simp [auto, stepN, hx, accN, ih]
      rfl
    · rw [if_neg hx, ← auto5]
      simp [auto, stepN, hx]
theorem auto1 (r : List UInt8) : auto 1 r 0 0 = if hd r = 48 then (if hd r.tail = 120 ∨ hd r.tail = 98 then (if isH (hd r.tail.tail) then 2 + cnt isH r.tail.tail else 1) else decA r 0) else decA r 0 := by
  cases r with
  | nil => simp [auto, hd, decA, fracA, expA, isE, cnt]
  | cons c r =>
    have e : hd (c :: r) = c.toNat := rfl
    rw [e]
    by_cases h0 : c.toNat = 48
    · rw [if_pos h0]
      have e2 := auto2 r 1
      have e3 : decA (c :: r) 0 = decA r 1 := by simp [decA, cnt, h0, isD]; congr 1; omega
      rw [e3]
      simp [auto, stepN, h0, accN, e2]
      rfl
    · rw [if_neg h0, ← auto5]
      simp [auto, stepN, h0]

/-- The number's length, as the Go text of numberLen reckons it. -/
def numA (l : List UInt8) : Nat :=
  if 2 < l.length ∧ hd l = 48 ∧ (hd l.tail = 120 ∨ hd l.tail = 98) ∧ 0 < cnt isH (l.drop 2) then 2 + cnt isH (l.drop 2) else decA l 0

theorem num_auto (l : List UInt8) : numA l = auto 1 l 0 0 := by
  rw [auto1]
  unfold numA
  by_cases h0 : hd l = 48
  · rw [if_pos h0]
    by_cases hx : hd l.tail = 120 ∨ hd l.tail = 98
    · rw [if_pos hx]
      match l, h0, hx with
      | [], h0, _ => simp [hd] at h0
      | [c], _, hx => simp [hd] at hx
      | [c, d], h0, hx =>
        have e : hd ([c, d] : List UInt8).tail.tail = 0 := rfl
        rw [e]
        have h1 : c.toNat = 48 := h0
        have h2 : d.toNat = 120 ∨ d.toNat = 98 := hx
        simp [isH, isD, decA, cnt, h1]
        rcases h2 with h2 | h2 <;> simp [h2, fracA, expA, hd, isE]
      | c :: d :: f :: r, h0, hx =>
        have h1 : c.toNat = 48 := h0
        have h2 : d.toNat = 120 ∨ d.toNat = 98 := hx
        have e : hd (c :: d :: f :: r).tail.tail = f.toNat := rfl
        rw [e]
        by_cases hf : isH f.toNat = true
        · rw [if_pos hf, if_pos ⟨by simp, h0, hx, by simp [cnt, hf]⟩]; rfl
        · rw [if_neg hf, if_neg (by simp [cnt, hf])]
          simp [decA, cnt, h1, isD]
          rcases h2 with h2 | h2 <;> simp [h2, fracA, expA, hd, isE]
    · rw [if_neg hx, if_neg (fun h => hx h.2.2.1)]
  · rw [if_neg h0, if_neg (fun h => h0 h.2.1)]
end Go.Proofs.Qxb6603997a
