import Derived.Test.Qxb6604309aRows
import Derived.WalkKit
import Derived.WalkSpells
import Derived.WalkLawsBesides
namespace Go.Proofs.Qxb6604309a
open Go.RowKit

theorem size_list (s : ByteArray) : s.data.toList.length = s.size := by rw [Array.length_toList]; rfl

/-- The digit at column k; 0 before and behind them. -/
def dgt (D : List UInt8) (k : Int) : Int := if 0 ≤ k ∧ k < D.length then ((D.getD k.toNat 0).toNat : Int) - 48 else 0
/-- The number that c columns from a on spell. -/
def V (D : List UInt8) (a : Int) : Nat → Int
  | 0 => 0
  | c + 1 => V D a c * 10 + dgt D (a + c)

def AllD (D : List UInt8) : Prop := ∀ c ∈ D, 48 ≤ c.toNat ∧ c.toNat ≤ 57

theorem AllD.dgt {D : List UInt8} (h : AllD D) (k : Int) : 0 ≤ dgt D k ∧ dgt D k ≤ 9 := by
  unfold Qxb6604309a.dgt
  split
  · rename_i hk
    have hlt : k.toNat < D.length := by omega
    have := h (D[k.toNat]) (List.getElem_mem hlt)
    rw [List.getD_eq_getElem?_getD, List.getElem?_eq_getElem hlt]
    simp only [Option.getD_some]
    omega
  · omega

theorem V_bd {D : List UInt8} (h : AllD D) (a : Int) : ∀ c : Nat, 0 ≤ V D a c ∧ V D a c < 10 ^ c
  | 0 => by simp [V]
  | c + 1 => by
    have ih := V_bd h a c
    have hd := h.dgt (a + c)
    have e : (10 : Int) ^ (c + 1) = 10 ^ c * 10 := Int.pow_succ 10 c
    simp only [V]
    rw [e]
    omega

theorem V_add (D : List UInt8) (a : Int) (c : Nat) : ∀ e : Nat, V D a (c + e) = V D a c * 10 ^ e + V D (a + c) e
  | 0 => by simp [V]
  | e + 1 => by
    have ih := V_add D a c e
    have e2 : (10 : Int) ^ (e + 1) = 10 ^ e * 10 := Int.pow_succ 10 e
    have e3 : V D a (c + (e + 1)) = V D a (c + e) * 10 + dgt D (a + ((c + e : Nat) : Int)) := rfl
    have e4 : V D (a + c) (e + 1) = V D (a + c) e * 10 + dgt D (a + c + e) := rfl
    rw [e3, e4, ih, e2]
    have e5 : a + ((c + e : Nat) : Int) = a + c + e := by omega
    rw [e5, Int.add_mul, Int.mul_assoc]
    omega

theorem V_zero (D : List UInt8) (a : Int) : ∀ c : Nat, (∀ k, a ≤ k → k < a + c → dgt D k = 0) → V D a c = 0
  | 0, _ => rfl
  | c + 1, h => by
    have ih := V_zero D a c (fun k h1 h2 => h k h1 (by omega))
    simp only [V]
    rw [ih, h (a + c) (by omega) (by omega)]
    rfl

/-- How many zeros stand at the head. -/
def lead0 : List UInt8 → Nat
  | [] => 0
  | c :: r => if c.toNat = 48 then lead0 r + 1 else 0
theorem lead0_le : ∀ l, lead0 l ≤ l.length
  | [] => Nat.le_refl _
  | c :: r => by have := lead0_le r; simp only [lead0, List.length_cons]; split <;> omega
theorem lead0_cons0 {c : UInt8} {r : List UInt8} (h : c.toNat = 48) : lead0 (c :: r) = lead0 r + 1 := by simp [lead0, h]
theorem lead0_cons1 {c : UInt8} {r : List UInt8} (h : ¬ c.toNat = 48) : lead0 (c :: r) = 0 := by simp [lead0, h]
theorem lead0_full : ∀ x y : List UInt8, lead0 x = x.length → lead0 (x ++ y) = x.length + lead0 y
  | [], y, _ => by simp
  | c :: r, y, h => by
    by_cases hc : c.toNat = 48
    · rw [lead0_cons0 hc] at h
      have := lead0_full r y (by simpa using h)
      rw [List.cons_append, lead0_cons0 hc, this, List.length_cons]; omega
    · rw [lead0_cons1 hc] at h; simp at h
theorem lead0_part : ∀ x y : List UInt8, lead0 x < x.length → lead0 (x ++ y) = lead0 x
  | [], y, h => by simp at h
  | c :: r, y, h => by
    by_cases hc : c.toNat = 48
    · rw [lead0_cons0 hc] at h
      have := lead0_part r y (by simpa using h)
      rw [List.cons_append, lead0_cons0 hc, this, lead0_cons0 hc]
    · rw [List.cons_append, lead0_cons1 hc, lead0_cons1 hc]
theorem lead0_take : ∀ (l : List UInt8) (e : Nat), lead0 (l.take e) = min (lead0 l) e
  | [], e => by simp [lead0]
  | c :: r, 0 => by simp [lead0]
  | c :: r, e + 1 => by
    have ih := lead0_take r e
    simp only [List.take_succ_cons, lead0]
    split
    · rw [ih]; omega
    · omega
theorem lead0_get : ∀ (l : List UInt8) (k : Nat), k < lead0 l → (l.getD k 0).toNat = 48
  | [], k, h => absurd h (by simp [lead0])
  | c :: r, k, h => by
    simp only [lead0] at h
    by_cases hc : c.toNat = 48
    · rw [if_pos hc] at h
      match k with
      | 0 => simpa using hc
      | k + 1 => have := lead0_get r k (by omega); simpa using this
    · rw [if_neg hc] at h; omega

/-- The micro-credits before rounding: from 'first' up to the sixth column behind the point. -/
def cntM (point first : Int) : Nat := (point + 6 - first).toNat
def m0 (D : List UInt8) (point first : Int) : Int := V D first (cntM point first)
/-- The integer part, and the seven columns behind the point. -/
def v7 (D : List UInt8) (point first : Int) : Int := V D first (point - first).toNat * 10000000 + V D point 7

/-- Below 'first' every column is 0. -/
def Lead (D : List UInt8) (first : Int) : Prop := ∀ k, k < first → dgt D k = 0

theorem lead_of (D : List UInt8) : Lead D (lead0 D) := by
  intro k hk
  unfold dgt
  split
  · rename_i h
    have := lead0_get D k.toNat (by omega)
    omega
  · rfl

theorem v7_m0 (D : List UInt8) (point first : Int) (hl : Lead D first) : v7 D point first = 10 * m0 D point first + dgt D (point + 6) := by
  have e7 : V D point 7 = V D point 6 * 10 + dgt D (point + 6) := rfl
  unfold v7 m0 cntM
  rw [e7]
  by_cases h : first ≤ point
  · obtain ⟨c, hc⟩ : ∃ c : Nat, point = first + c := ⟨(point - first).toNat, by omega⟩
    subst hc
    have e1 : (first + ↑c - first).toNat = c := by omega
    have e2 : (first + ↑c + 6 - first).toNat = c + 6 := by omega
    rw [e1, e2, V_add]
    have : (10 : Int) ^ 6 = 1000000 := rfl
    rw [this]
    omega
  · have e1 : (point - first).toNat = 0 := by omega
    rw [e1]
    have e0 : V D first 0 = 0 := rfl
    rw [e0]
    by_cases h6 : point + 6 ≤ first
    · have e2 : (point + 6 - first).toNat = 0 := by omega
      have e3 : V D point 6 = 0 := V_zero D point 6 (fun k h1 h2 => hl k (by omega))
      rw [e2, e3, e0]
      omega
    · obtain ⟨e, he⟩ : ∃ e : Nat, first = point + e := ⟨(first - point).toNat, by omega⟩
      have h5 : e ≤ 6 := by omega
      have e2 : (point + 6 - first).toNat = 6 - e := by omega
      have e3 : V D point 6 = V D first (6 - e) := by
        have := V_add D point e (6 - e)
        rw [show e + (6 - e) = 6 by omega, V_zero D point e (fun k h1 h2 => hl k (by omega))] at this
        rw [this, ← he]
        omega
      rw [e2, e3]
      omega

theorem V_lt {D : List UInt8} (h : AllD D) (a : Int) {c n : Nat} (hc : c ≤ n) : V D a c < 10 ^ n := by
  have h1 := (V_bd h a c).2
  have h2 : (10 : Int) ^ c ≤ 10 ^ n := by exact_mod_cast Nat.pow_le_pow_right (n := 10) (by omega) hc
  omega

/-- A stretch of the columns by itself. -/
theorem V_sub (D : List UInt8) (a c : Nat) (h : a + c ≤ D.length) : V ((D.drop a).take c) 0 c = V D a c := by
  have key : ∀ e : Nat, e ≤ c → V ((D.drop a).take c) 0 e = V D a e := by
    intro e
    induction e with
    | zero => intro _; rfl
    | succ e ih =>
      intro he
      simp only [V]
      rw [ih (by omega)]
      have hd : dgt ((D.drop a).take c) (0 + (e : Int)) = dgt D ((a : Int) + e) := by
        unfold dgt
        rw [if_pos ⟨by omega, by rw [List.length_take, List.length_drop]; omega⟩, if_pos ⟨by omega, by omega⟩]
        rw [show (0 + (e : Int)).toNat = e by omega, show ((a : Int) + e).toNat = a + e by omega]
        rw [List.getD_eq_getElem?_getD, List.getD_eq_getElem?_getD, List.getElem?_take, if_pos (by omega), List.getElem?_drop]
      rw [hd]
  exact key c (Nat.le_refl _)

def allB (l : List UInt8) : Bool := l.all fun c => decide (48 ≤ c.toNat) && decide (c.toNat ≤ 57)
theorem allB_iff (l : List UInt8) : allB l = true ↔ AllD l := by
  unfold allB AllD
  simp
theorem AllD.append {x y : List UInt8} (h : AllD x) (k : AllD y) : AllD (x ++ y) := by
  intro c hc
  rcases List.mem_append.1 hc with h1 | h1
  · exact h c h1
  · exact k c h1
theorem AllD.sub {x : List UInt8} (h : AllD x) (a c : Nat) : AllD ((x.drop a).take c) := fun b hb => h b (List.mem_of_mem_drop (List.mem_of_mem_take hb))
end Go.Proofs.Qxb6604309a
