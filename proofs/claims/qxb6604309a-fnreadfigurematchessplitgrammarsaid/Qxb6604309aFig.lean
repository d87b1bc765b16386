import Derived.Test.Qxb6604309aPlain
namespace Go.Proofs.Qxb6604309a
open Go.RowKit

def isD (n : Nat) : Bool := decide (48 ≤ n) && decide (n ≤ 57)
def isE (n : Nat) : Bool := decide (n = 101) || decide (n = 69)
def isS (n : Nat) : Bool := decide (n = 45) || decide (n = 43)
def hd (l : List UInt8) : Nat := (l.headD 0).toNat
def cntD : List UInt8 → Nat
  | [] => 0
  | c :: r => if isD c.toNat then cntD r + 1 else 0

/-- The exponent as readFigure gathers it. -/
def capL : Int → List UInt8 → Int
  | e, [] => e
  | e, c :: r => capL (if e < 1099511627776 then e * 10 + ((c.toNat : Int) - 48) else e) r

/-- What stands behind the significand: the exponent, or nothing. -/
def expP (r : List UInt8) : Option Int :=
  if isE (hd r) then
    (if cntD (if isS (hd r.tail) then r.tail.tail else r.tail) = 0 ∨ cntD (if isS (hd r.tail) then r.tail.tail else r.tail) ≠ (if isS (hd r.tail) then r.tail.tail else r.tail).length then none
     else some (if hd r.tail = 45 then - capL 0 (if isS (hd r.tail) then r.tail.tail else r.tail) else capL 0 (if isS (hd r.tail) then r.tail.tail else r.tail)))
  else if r = [] then some 0 else none

/-- readFigure: the count of whole digits, the fraction, the exponent. -/
def readP (l : List UInt8) : Option (Nat × List UInt8 × Int) :=
  if hd (l.drop (cntD l)) = 46 then
    (if cntD l + cntD (l.drop (cntD l)).tail = 0 then none else
      (expP ((l.drop (cntD l)).tail.drop (cntD (l.drop (cntD l)).tail))).map fun e => (cntD l, (l.drop (cntD l)).tail.take (cntD (l.drop (cntD l)).tail), e))
  else (if cntD l = 0 then none else (expP (l.drop (cntD l))).map fun e => (cntD l, [], e))

def idx (p : Nat → Bool) : List UInt8 → Nat
  | [] => 0
  | c :: r => if p c.toNat then 0 else idx p r + 1

def isDot (n : Nat) : Bool := decide (n = 46)

/-- The exponent as the model reckons it. -/
def capT (t : List UInt8) : Int :=
  if t.length ≤ 13 then V t 0 t.length else if 1099511627776 ≤ V (t.take 13) 0 13 then V (t.take 13) 0 13 else V (t.take 14) 0 14
def capM (t : List UInt8) : Int := capT (t.drop (lead0 t))

def expM (r : List UInt8) : Option Int :=
  if (if isS (hd r) then r.tail else r) = [] ∨ allB (if isS (hd r) then r.tail else r) = false then none
  else some (if hd r = 45 then - capM (if isS (hd r) then r.tail else r) else capM (if isS (hd r) then r.tail else r))

/-- The model. -/
def fracM (m : List UInt8) : List UInt8 := (m.drop (idx isDot m)).tail
def modelP (l : List UInt8) : Option (Nat × List UInt8 × Int) :=
  if idx isDot (l.take (idx isE l)) + (fracM (l.take (idx isE l))).length = 0 ∨ allB ((l.take (idx isE l)).take (idx isDot (l.take (idx isE l)))) = false ∨ allB (fracM (l.take (idx isE l))) = false then none
  else (if idx isE l < l.length then expM (l.drop (idx isE l + 1)) else some 0).map fun e => (idx isDot (l.take (idx isE l)), fracM (l.take (idx isE l)), e)

theorem cntD_le : ∀ l, cntD l ≤ l.length
  | [] => Nat.le_refl _
  | c :: r => by have := cntD_le r; simp only [cntD, List.length_cons]; split <;> omega
theorem cntD_take : ∀ l : List UInt8, AllD (l.take (cntD l))
  | [] => by intro c hc; simp at hc
  | c :: r => by
    have ih := cntD_take r
    simp only [cntD]
    split
    · rename_i h
      intro b hb
      rw [List.take_succ_cons] at hb
      rcases List.mem_cons.1 hb with rfl | hb
      · simp [isD] at h; exact h
      · exact ih b hb
    · intro b hb; simp at hb
theorem cntD_drop : ∀ l : List UInt8, isD (hd (l.drop (cntD l))) = false
  | [] => rfl
  | c :: r => by
    have ih := cntD_drop r
    by_cases h : isD c.toNat = true
    · have e : cntD (c :: r) = cntD r + 1 := by simp [cntD, h]
      rw [e, List.drop_succ_cons]; exact ih
    · have e : cntD (c :: r) = 0 := by simp [cntD, h]
      rw [e, List.drop_zero]
      simpa [hd] using h
theorem cntD_app : ∀ (d r : List UInt8), AllD d → isD (hd r) = false → cntD (d ++ r) = d.length
  | [], r, _, h => by
    cases r with
    | nil => rfl
    | cons c r => have : isD c.toNat = false := h; simp [cntD, this]
  | c :: d, r, hd', h => by
    have h1 := hd' c (by simp)
    have ih := cntD_app d r (fun b hb => hd' b (by simp [hb])) h
    have e : isD c.toNat = true := by simp [isD, h1]
    simp [cntD, e, ih]
theorem idx_app (p : Nat → Bool) (hp : ∀ n, 48 ≤ n → n ≤ 57 → p n = false) : ∀ (d r : List UInt8), AllD d → idx p (d ++ r) = d.length + idx p r
  | [], r, _ => by simp
  | c :: d, r, h => by
    have h1 := h c (by simp)
    have ih := idx_app p hp d r (fun b hb => h b (by simp [hb]))
    have e : p c.toNat = false := hp _ h1.1 h1.2
    simp only [List.cons_append, idx, e, ih, List.length_cons]
    simp; omega
theorem isE_dig (n : Nat) (h1 : 48 ≤ n) (h2 : n ≤ 57) : isE n = false := by simp [isE]; omega
theorem isDot_dig (n : Nat) (h1 : 48 ≤ n) (h2 : n ≤ 57) : isDot n = false := by simp [isDot]; omega
theorem idx_le (p : Nat → Bool) : ∀ l, idx p l ≤ l.length
  | [] => Nat.le_refl _
  | c :: r => by have := idx_le p r; simp only [idx, List.length_cons]; split <;> omega
theorem allB_all {d : List UInt8} (h : AllD d) : allB d = true := (allB_iff d).2 h
theorem allB_no {d : List UInt8} {c : UInt8} (h : c ∈ d) (hc : isD c.toNat = false) : allB d = false := by
  cases e : allB d
  · rfl
  · have := (allB_iff d).1 e c h
    simp [isD] at hc
    omega

/-- The exponents agree, digits given. -/
theorem cntD_full (t : List UInt8) : (cntD t = 0 ∨ cntD t ≠ t.length) ↔ (t = [] ∨ allB t = false) := by
  constructor
  · intro h
    rcases h with h | h
    · cases t with
      | nil => exact .inl rfl
      | cons c r =>
        right
        have : isD c.toNat = false := by
          cases e : isD c.toNat
          · rfl
          · simp [cntD, e] at h
        exact allB_no (c := c) (by simp) this
    · right
      have hle := cntD_le t
      have hdr := cntD_drop t
      have hne : t.drop (cntD t) ≠ [] := by
        intro e
        have := congrArg List.length e
        rw [List.length_drop] at this; simp at this; omega
      obtain ⟨c, r, hcr⟩ := List.exists_cons_of_ne_nil hne
      rw [hcr] at hdr
      exact allB_no (c := c) (List.mem_of_mem_drop (by rw [hcr]; simp)) hdr
  · intro h
    rcases h with rfl | h
    · exact .inl rfl
    · right
      intro e
      have := cntD_take t
      rw [e, List.take_length] at this
      rw [allB_all this] at h
      cases h

theorem capL_const : ∀ (r : List UInt8) (e : Int), 1099511627776 ≤ e → capL e r = e
  | [], _, _ => rfl
  | c :: r, e, h => by
    simp only [capL]
    rw [if_neg (by omega)]
    exact capL_const r e h
theorem capL_lead : ∀ t : List UInt8, capL 0 t = capL 0 (t.drop (lead0 t))
  | [] => rfl
  | c :: r => by
    by_cases h : c.toNat = 48
    · rw [lead0_cons0 h, List.drop_succ_cons, ← capL_lead r]
      simp [capL, h]
    · rw [lead0_cons1 h, List.drop_zero]
theorem capL_step (t : List UInt8) (ht : AllD t) : ∀ k : Nat, k ≤ 13 → k ≤ t.length → capL 0 t = capL (V t 0 k) (t.drop k)
  | 0, _, _ => rfl
  | k + 1, h, hl => by
    rw [capL_step t ht k (by omega) (by omega), List.drop_eq_getElem_cons (by omega : k < t.length)]
    have hv : V t 0 k < 10 ^ 12 := V_lt ht 0 (by omega)
    have e12 : (10 : Int) ^ 12 = 1000000000000 := rfl
    have hd : dgt t ((0 : Int) + (k : Int)) = (t[k].toNat : Int) - 48 := by
      unfold dgt
      rw [if_pos ⟨by omega, by omega⟩, show ((0 : Int) + (k : Int)).toNat = k by omega, List.getD_eq_getElem?_getD, List.getElem?_eq_getElem (by omega)]
      rfl
    simp only [capL]
    rw [if_pos (by omega)]
    show _ = capL (V t 0 k * 10 + dgt t ((0 : Int) + (k : Int))) _
    rw [hd]
theorem V_lo (t : List UInt8) (ht : AllD t) (h1 : 1 ≤ dgt t 0) : ∀ c : Nat, 10 ^ c ≤ V t 0 (c + 1)
  | 0 => by simp [V]; exact h1
  | c + 1 => by
    have ih := V_lo t ht h1 c
    have hd := ht.dgt ((0 : Int) + ((c + 1 : Nat) : Int))
    have e : (10 : Int) ^ (c + 1) = 10 ^ c * 10 := Int.pow_succ 10 c
    show _ ≤ V t 0 (c + 1) * 10 + dgt t ((0 : Int) + ((c + 1 : Nat) : Int))
    rw [e]
    omega
theorem V_takeN (t : List UInt8) (n : Nat) (h : n ≤ t.length) : V (t.take n) 0 n = V t 0 n := by
  have := V_sub t 0 n (by omega)
  simpa using this
theorem capT_eq (t : List UInt8) (ht : AllD t) (h0 : t = [] ∨ 1 ≤ dgt t 0) : capL 0 t = capT t := by
  unfold capT
  by_cases h : t.length ≤ 13
  · rw [if_pos h, capL_step t ht t.length h (Nat.le_refl _), List.drop_length]; rfl
  · rw [if_neg h, V_takeN t 13 (by omega), V_takeN t 14 (by omega)]
    have h1 : 1 ≤ dgt t 0 := by
      rcases h0 with rfl | h0
      · simp at h
      · exact h0
    rw [capL_step t ht 13 (Nat.le_refl _) (by omega)]
    by_cases hv : 1099511627776 ≤ V t 0 13
    · rw [if_pos hv]; exact capL_const _ _ hv
    · rw [if_neg hv, List.drop_eq_getElem_cons (by omega : 13 < t.length)]
      have hd : dgt t ((0 : Int) + ((13 : Nat) : Int)) = (t[13].toNat : Int) - 48 := by
        unfold dgt
        rw [if_pos ⟨by omega, by omega⟩, show ((0 : Int) + ((13 : Nat) : Int)).toNat = 13 by omega, List.getD_eq_getElem?_getD, List.getElem?_eq_getElem (by omega)]
        rfl
      have e14 : V t 0 14 = V t 0 13 * 10 + dgt t ((0 : Int) + ((13 : Nat) : Int)) := rfl
      have hlo := V_lo t ht h1 13
      have e13 : (10 : Int) ^ 13 = 10000000000000 := rfl
      have hlo2 : 10000000000000 ≤ V t 0 14 := by rw [← e13]; exact hlo
      simp only [capL]
      rw [if_pos (by omega), ← hd, ← e14]
      exact capL_const _ _ (by omega)
theorem lead0_next : ∀ t : List UInt8, t.drop (lead0 t) = [] ∨ ¬ hd (t.drop (lead0 t)) = 48
  | [] => .inl rfl
  | c :: r => by
    by_cases h : c.toNat = 48
    · rw [lead0_cons0 h, List.drop_succ_cons]; exact lead0_next r
    · rw [lead0_cons1 h, List.drop_zero]; exact .inr h
theorem cap_eq (t : List UInt8) (ht : AllD t) : capL 0 t = capM t := by
  unfold capM
  rw [capL_lead]
  have hall : AllD (t.drop (lead0 t)) := fun b hb => ht b (List.mem_of_mem_drop hb)
  refine capT_eq _ hall ?_
  have hn := lead0_next t
  cases e : t.drop (lead0 t) with
  | nil => exact .inl rfl
  | cons c r =>
    right
    rw [e] at hn hall
    have h1 := hall c (by simp)
    have h2 : ¬ c.toNat = 48 := by
      rcases hn with hn | hn
      · cases hn
      · exact hn
    unfold dgt
    rw [if_pos ⟨by omega, by simp⟩]
    simp
    omega

theorem exp_eq (r : List UInt8) (h : isE (hd r) = true) : expP r = expM r.tail := by
  unfold expP expM
  rw [if_pos h]
  generalize ht : (if isS (hd r.tail) then r.tail.tail else r.tail) = t
  by_cases h0 : t = [] ∨ allB t = false
  · rw [if_pos ((cntD_full t).2 h0), if_pos h0]
  · rw [if_neg (fun hx => h0 ((cntD_full t).1 hx)), if_neg h0]
    have hall : AllD t := (allB_iff t).1 (by
      cases e : allB t
      · exact absurd (Or.inr e) h0
      · rfl)
    rw [cap_eq t hall]

theorem fracM_app (d x : List UInt8) (h : AllD d) : fracM (d ++ x) = fracM x := by
  unfold fracM
  rw [idx_app isDot isDot_dig d x h, List.drop_append, List.drop_of_length_le (by omega), List.nil_append, Nat.add_sub_cancel_left]
theorem allB_app {d : List UInt8} (y : List UInt8) (h : AllD d) : allB (d ++ y) = allB y := by
  have := allB_all h
  unfold allB at this ⊢
  rw [List.all_append, this, Bool.true_and]
theorem take_app (d x : List UInt8) (j : Nat) : (d ++ x).take (d.length + j) = d ++ x.take j := by
  rw [List.take_append, List.take_of_length_le (by omega), Nat.add_sub_cancel_left]

/-- The model behind its leading digits. -/
def modelQ (n : Nat) (r : List UInt8) : Option (Nat × List UInt8 × Int) :=
  if n + idx isDot (r.take (idx isE r)) + (fracM (r.take (idx isE r))).length = 0 ∨ allB ((r.take (idx isE r)).take (idx isDot (r.take (idx isE r)))) = false ∨ allB (fracM (r.take (idx isE r))) = false then none
  else (if idx isE r < r.length then expM (r.drop (idx isE r + 1)) else some 0).map fun e => (n + idx isDot (r.take (idx isE r)), fracM (r.take (idx isE r)), e)
theorem modelP_app (d r : List UInt8) (h : AllD d) : modelP (d ++ r) = modelQ d.length r := by
  unfold modelP modelQ
  have e1 := idx_app isE isE_dig d r h
  have e2 : (d ++ r).take (idx isE (d ++ r)) = d ++ r.take (idx isE r) := by rw [e1, take_app]
  have e3 := idx_app isDot isDot_dig d (r.take (idx isE r)) h
  rw [e2, e3, fracM_app d _ h, take_app, allB_app _ h]
  have e4 : (idx isE (d ++ r) < (d ++ r).length) = (idx isE r < r.length) := by
    rw [e1, List.length_append]; exact propext (by omega)
  have e5 : (d ++ r).drop (idx isE (d ++ r) + 1) = r.drop (idx isE r + 1) := by
    rw [e1, List.drop_append, List.drop_of_length_le (by omega), List.nil_append, show d.length + idx isE r + 1 - d.length = idx isE r + 1 by omega]
  rw [e5]
  by_cases hlt : idx isE r < r.length
  · have hp : idx isE (d ++ r) < (d ++ r).length := by rw [e4]; exact hlt
    rw [if_pos (c := idx isE (d ++ r) < (d ++ r).length) hp, if_pos (c := idx isE r < r.length) hlt]
  · have hp : ¬ idx isE (d ++ r) < (d ++ r).length := by rw [e4]; exact hlt
    rw [if_neg (c := idx isE (d ++ r) < (d ++ r).length) hp, if_neg (c := idx isE r < r.length) hlt]

def readQ (n : Nat) (r : List UInt8) : Option (Nat × List UInt8 × Int) :=
  if hd r = 46 then
    (if n + cntD r.tail = 0 then none else (expP (r.tail.drop (cntD r.tail))).map fun e => (n, r.tail.take (cntD r.tail), e))
  else (if n = 0 then none else (expP r).map fun e => (n, [], e))
theorem readP_eq (l : List UInt8) : readP l = readQ (cntD l) (l.drop (cntD l)) := rfl

theorem expP_nil : expP [] = some 0 := by simp [expP, hd, isE]
theorem expP_bad (c : UInt8) (r : List UInt8) (h : isE c.toNat = false) : expP (c :: r) = none := by
  have : hd (c :: r) = c.toNat := rfl
  unfold expP
  rw [this, h]
  simp

theorem read_model (n : Nat) (r : List UInt8) (hr : isD (hd r) = false) : readQ n r = modelQ n r := by
  cases r with
  | nil =>
    unfold readQ modelQ
    rw [if_neg (by simp [hd])]
    by_cases h : n = 0
    · rw [if_pos h, if_pos (.inl (by simp [idx, fracM, h]))]
    · rw [if_neg h, if_neg (by simp [idx, fracM, allB, h]), expP_nil]
      simp [idx, fracM]
  | cons c r' =>
    have hc : isD c.toNat = false := hr
    have ehd : hd (c :: r') = c.toNat := rfl
    by_cases h46 : c.toNat = 46
    · have hE : isE c.toNat = false := by rw [h46]; rfl
      have e1 : idx isE (c :: r') = idx isE r' + 1 := by simp [idx, hE]
      have e2 : idx isDot (c :: r'.take (idx isE r')) = 0 := by simp [idx, isDot, h46]
      have e3 : fracM (c :: r'.take (idx isE r')) = r'.take (idx isE r') := by unfold fracM; rw [e2]; rfl
      unfold readQ modelQ
      rw [ehd, if_pos h46, e1, List.take_succ_cons, e2, e3]
      have ha : allB ((c :: r'.take (idx isE r')).take 0) = true := rfl
      rw [ha, List.tail_cons]
      obtain ⟨fs, r2, hfs, hlen, hsplit, hr2⟩ : ∃ fs r2 : List UInt8, AllD fs ∧ fs.length = cntD r' ∧ r' = fs ++ r2 ∧ isD (hd r2) = false :=
        ⟨r'.take (cntD r'), r'.drop (cntD r'), cntD_take r', by rw [List.length_take]; have := cntD_le r'; omega, (List.take_append_drop _ _).symm, cntD_drop r'⟩
      have ed : r'.drop (cntD r') = r2 := by rw [← hlen, hsplit, List.drop_left]
      have et : r'.take (cntD r') = fs := by rw [← hlen, hsplit, List.take_left]
      rw [ed, et, ← hlen]
      have ei : idx isE r' = fs.length + idx isE r2 := by rw [hsplit, idx_app isE isE_dig fs r2 hfs]
      have ey : r'.take (idx isE r') = fs ++ r2.take (idx isE r2) := by rw [ei, hsplit, take_app]
      rw [ey, allB_app _ hfs]
      cases r2 with
      | nil =>
        have e0 : ¬ idx isE r' + 1 < (c :: r').length := by rw [ei, hsplit]; simp [idx]
        rw [if_neg e0, expP_nil]
        simp only [idx, List.take_nil, List.append_nil, Nat.add_zero]
        by_cases h : n + fs.length = 0
        · rw [if_pos h, if_pos (.inl h)]
        · rw [if_neg h, if_neg (fun hx => by
            rcases hx with hx | hx | hx
            · exact h (by simpa using hx)
            · cases hx
            · cases hx)]
      | cons c2 r3 =>
        have hc2 : isD c2.toNat = false := hr2
        by_cases hE2 : isE c2.toNat = true
        · have ez : idx isE (c2 :: r3) = 0 := by simp [idx, hE2]
          have e0 : idx isE r' + 1 < (c :: r').length := by rw [ei, hsplit, ez]; simp
          have e6 : (c :: r').drop (idx isE r' + 1 + 1) = r3 := by
            rw [ei, ez, hsplit, List.drop_succ_cons, Nat.add_zero, ← List.drop_drop, List.drop_left]; rfl
          have e7 : expP (c2 :: r3) = expM r3 := exp_eq (c2 :: r3) hE2
          rw [if_pos e0, e6, e7, ez]
          simp only [List.take_zero, List.append_nil, Nat.add_zero]
          by_cases h : n + fs.length = 0
          · rw [if_pos h, if_pos (.inl h)]
          · rw [if_neg h, if_neg (fun hx => by
              rcases hx with hx | hx | hx
              · exact h (by simpa using hx)
              · cases hx
              · cases hx)]
        · have hE2' : isE c2.toNat = false := by simpa using hE2
          have ez : idx isE (c2 :: r3) = idx isE r3 + 1 := by simp [idx, hE2']
          rw [ez, List.take_succ_cons, expP_bad c2 r3 hE2']
          have hb : allB (c2 :: r3.take (idx isE r3)) = false := allB_no (c := c2) (by simp) hc2
          rw [hb]
          simp
    · by_cases hE : isE c.toNat = true
      · have ez : idx isE (c :: r') = 0 := by simp [idx, hE]
        have e7 : expP (c :: r') = expM r' := exp_eq (c :: r') hE
        unfold readQ modelQ
        rw [ehd, if_neg h46, e7, ez, if_pos (by simp : 0 < (c :: r').length)]
        have e8 : fracM (List.take 0 (c :: r')) = [] := rfl
        have e9 : idx isDot (List.take 0 (c :: r')) = 0 := rfl
        rw [e8, e9]
        by_cases h : n = 0
        · rw [if_pos h, if_pos (.inl (by simp [h]))]
        · rw [if_neg h, if_neg (by simp [allB, h])]; simp
      · have hE' : isE c.toNat = false := by simpa using hE
        have e1 : idx isE (c :: r') = idx isE r' + 1 := by simp [idx, hE']
        have e2 : idx isDot (c :: r'.take (idx isE r')) = idx isDot (r'.take (idx isE r')) + 1 := by simp [idx, isDot, h46]
        unfold readQ modelQ
        rw [ehd, if_neg h46, e1, List.take_succ_cons, e2, List.take_succ_cons, expP_bad c r' hE']
        have hb : allB (c :: (r'.take (idx isE r')).take (idx isDot (r'.take (idx isE r')))) = false := allB_no (c := c) (by simp) hc
        rw [hb]
        simp

theorem read_eq (l : List UInt8) : readP l = modelP l := by
  rw [readP_eq]
  have h := modelP_app (l.take (cntD l)) (l.drop (cntD l)) (cntD_take l)
  rw [List.take_append_drop, List.length_take, Nat.min_eq_left (cntD_le l)] at h
  rw [h]
  exact read_model _ _ (cntD_drop l)
end Go.Proofs.Qxb6604309a
