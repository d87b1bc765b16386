import Derived.Test.Qxb6603997aSA
namespace Go.Proofs.Qxb6603997a
open Go.RowKit

/-- How rrValuesOK stands at value j: P is the place. -/
def VAt (T : Nat → Tok) (I : Nat → Int) (A m : Nat) (L : List (Nat × Nat)) (j P : Nat) : Prop :=
  (j < L.length ∧ ∃ s, P = A + s ∧ Chn (fun q => T (A + q)) (fun q => I (A + q)) m s (L.drop j)) ∨ (j = L.length ∧ P = A + m)

/-- One value: where it ends, and what follows. -/
theorem VAt.step {T : Nat → Tok} {I : Nat → Int} {A m : Nat} {L : List (Nat × Nat)} {j P : Nat} (h : VAt T I A m L j P) (hj : j < L.length) :
    P = A + (L.getD j (0, 0)).1 ∧ P + ((L.getD j (0, 0)).2 - (L.getD j (0, 0)).1) ≤ A + m ∧ (∀ q, q < (L.getD j (0, 0)).2 - (L.getD j (0, 0)).1 → ((I (P + q) == I A) && cma T (P + q)) = false) ∧
      ((j + 1 = L.length ∧ P + ((L.getD j (0, 0)).2 - (L.getD j (0, 0)).1) = A + m) ∨
       (j + 1 < L.length ∧ P + ((L.getD j (0, 0)).2 - (L.getD j (0, 0)).1) < A + m ∧ (I (P + ((L.getD j (0, 0)).2 - (L.getD j (0, 0)).1)) == I A) = true ∧ cma T (P + ((L.getD j (0, 0)).2 - (L.getD j (0, 0)).1)) = true ∧
        VAt T I A m L (j + 1) (P + ((L.getD j (0, 0)).2 - (L.getD j (0, 0)).1) + 1))) := by
  rcases h with ⟨_, s, rfl, hc⟩ | ⟨e, _⟩
  · rw [drop_getD hj] at hc
    obtain ⟨h1, h2, h3, h4, h5⟩ := hc
    generalize hp : L.getD j (0, 0) = p at *
    obtain ⟨p1, p2⟩ := p
    simp only at h1 h2 h3 h4 h5 ⊢
    subst h1
    refine ⟨rfl, by omega, fun q hq => ?_, ?_⟩
    · have := h4 (p1 + q) (by omega) (by omega)
      unfold sepAt cma at this
      unfold cma
      simp only [Nat.add_zero] at this
      rw [← Nat.add_assoc] at this
      exact this
    · have e1 : A + p1 + (p2 - p1) = A + p2 := by omega
      rw [e1]
      rcases h5 with ⟨h5, rfl⟩ | ⟨h5, h6, h7⟩
      · left
        have := List.drop_eq_nil_iff.1 h5
        exact ⟨by omega, rfl⟩
      · right
        have hlt : j + 1 < L.length := by
          rcases Nat.lt_or_ge (j + 1) L.length with h | h
          · exact h
          · rw [List.drop_eq_nil_iff.2 h] at h7; exact h7.elim
        unfold sepAt cma at h6
        simp only [Nat.add_zero] at h6
        rw [Bool.and_eq_true] at h6
        exact ⟨hlt, by omega, h6.1, h6.2, .inl ⟨hlt, p2 + 1, by omega, h7⟩⟩
  · omega

set_option maxRecDepth 100000 in
set_option maxHeartbeats 4000000 in
theorem valuesOK_any (V h hd : Hd) (H : Nat → Hd) (TT : Nat → Nat → Tok) (T : Nat → Tok) (I : Nat → Int) (k c A : Nat) (w : World) (hA : A = k + 1) (hv : ValsAt w V H TT) (hvn : V.n = (spl T I (k, c)).length) (hnil : V.a = none ↔ spl T I (k, c) = [])
    (hlen : ∀ j, j < (spl T I (k, c)).length → (H j).n = ((spl T I (k, c)).getD j (0, 0)).2 - ((spl T I (k, c)).getD j (0, 0)).1) (htok : ∀ j q, j < (spl T I (k, c)).length → TT j q = T (k + 1 + (((spl T I (k, c)).getD j (0, 0)).1 + q)))
    (ht : ToksAt w h T) (hi : IntsAt w hd I) (hkc : k < c) (hcn : c < h.n) (hn : h.n ≤ 1048576) (hnd : h.n ≤ hd.n) :
    Calls Try.prog 23 #[V.val, h.val, hd.val, .int .i64 A, .int .i64 c] w fun e w' => e = .returned (.bool true) ∧ Below w.heap.size w w' := by
  obtain ⟨aV, nV, cV⟩ := V
  obtain ⟨a, n, cap⟩ := h
  obtain ⟨ad, nd, cd⟩ := hd
  have HV : Hid (ValsAt w ⟨aV, nV, cV⟩ H TT) := hv
  have HT : Hid (ToksAt w ⟨a, n, cap⟩ T) := ht
  have HI : Hid (IntsAt w ⟨ad, nd, cd⟩ I) := hi
  simp only at hvn hnil hcn hn hnd
  have heq := fun w => Lib.run_eql_slice_nil (P := Try.prog) w 52 36 aV nV cV 0 0 Try.underlying52
  subst hA
  have hmn : k + 1 + (c - (k + 1)) = c := by omega
  have HLN : Hid ((spl T I (k, c)).length ≤ 1048576) := by
    have := sp_len (fun q => T (k + 1 + q)) (fun q => I (k + 1 + q)) (c - (k + 1)) (c - (k + 1)) 0 0
    exact Nat.le_trans this (by omega)
  have HC : Hid (k + 1 < c → VAt T I (k + 1) (c - (k + 1)) (spl T I (k, c)) 0 (k + 1)) := by
    intro hlt
    have hch := sp_chn (fun q => T (k + 1 + q)) (fun q => I (k + 1 + q)) (c - (k + 1)) (by omega) (c - (k + 1)) 0 0 (by omega) (Nat.le_refl _) fun q h1 h2 => by omega
    refine .inl ⟨?_, 0, rfl, hch⟩
    rcases Nat.lt_or_ge 0 (spl T I (k, c)).length with h | h
    · exact h
    · have e : sp (fun q => T (k + 1 + q)) (fun q => I (k + 1 + q)) (c - (k + 1)) (c - (k + 1)) 0 0 = [] := List.eq_nil_of_length_eq_zero (Nat.le_zero.1 h)
      rw [e] at hch
      exact hch.elim
  have HZ : Hid (k + 1 = c → spl T I (k, c) = []) := by
    intro e
    unfold spl
    rw [show c - (k + 1) = 0 by omega]
    rfl
  generalize spl T I (k, c) = L at *
  have HLEN := hid3 hlen
  have HTOK := hid3 htok
  clear hv ht hi hlen htok
  generalize hA : k + 1 = A at *
  have HVN := hid3 hvn
  unfold Hd.val
  by_cases hAc : A = c
  · have hv0 : aV = none := hnil.2 (HZ.out hAc)
    subst hv0
    have dA : ((A : Int) == (c : Int)) = true := beq_iff_eq.2 (by omega)
    clear HLEN HTOK HC HZ hnil hvn
    go_enter Try.func23, Try.ntmps23
    go_wp2
    go_ret
    exact ⟨rfl, Below.refl _ _⟩
  · have hAl : A < c := by omega
    have HVA := hid3 (HC.out hAl)
    have dA : ((A : Int) == (c : Int)) = false := beq_eq_false_iff_ne.2 (by omega)
    have hV0 : 0 < nV := by
      rcases HVA.out with ⟨h, -⟩ | ⟨h, h2⟩
      · omega
      · omega
    have hVb : nV ≤ 1048576 := by have := HLN.out; omega
    have d0 : ((nV : Int) == 0) = false := beq_eq_false_iff_ne.2 (by omega)
    obtain ⟨b1, off1, he1, q1⟩ := HI.out A (show A < nd by omega)
    cases he1
    rw [Nat.mul_one] at q1
    have hAI : (A : Int) < (nd : Int) := by omega
    clear HC HZ hnil heq hvn hA
    go_enter Try.func23, Try.ntmps23
    go_wp2
    go_loopg [12, 13] nV (fun g v12 v13 wr => ∃ (j P : Nat), j ≤ nV ∧ g = nV - j ∧ v13 = .int .i64 j ∧ v12 = .int .i64 P ∧ Hid (VAt T I A (c - A) L j P) ∧ Below w.heap.size w wr)
    case atStart => exact ⟨0, A, Nat.zero_le _, rfl, rfl, rfl, HVA.out, Below.refl _ _⟩
    case round =>
      obtain ⟨j, P, hj, hg, rfl, rfl, HP, hbel⟩ := hrel
      by_cases hlt : j < nV
      · have hjL : j < L.length := by have := HVN.out; omega
        obtain ⟨⟨bv, offv, hev, qv⟩, -, tv⟩ := HV.out j hlt
        cases hev
        obtain ⟨hP, hPm, hns, hnx⟩ := HP.out.step hjL
        have hln := HLEN.out j hjL
        have HTK : Hid (∀ q, TT j q = T (P + q)) := by
          intro q
          rw [HTOK.out j q hjL, ← Nat.add_assoc, hP]
        have rv := cell_b hbel qv
        rw [Nat.mul_one] at rv
        rw [← hln] at hPm hns hnx
        have HTV : Hid (ToksAt w (H j) (TT j)) := tv
        clear qv tv hln hP HP hjL
        generalize H j = hj0 at hPm hns hnx rv HTV
        obtain ⟨aj, nj, cj⟩ := hj0
        simp only at hPm hns hnx
        unfold Hd.val at rv
        have HNS := hid3 hns
        have HNX := hid3 hnx
        clear hns hnx
        have hjI : (j : Int) < (nV : Int) := by omega
        have hnj : nj ≤ 1048576 := by omega
        have hPn : P + nj ≤ c := by omega
        have dl : decide ((c : Int) - (P : Int) < (nj : Int)) = false := decide_eq_false (by omega)
        go_wp2
        go_loopg [15] nj (fun g v15 wr => ∃ (q : Nat), q ≤ nj ∧ g = nj - q ∧ v15 = .int .i64 q ∧ Below w.heap.size w wr)
        case atStart => exact ⟨0, Nat.zero_le _, rfl, rfl, hbel⟩
        case round =>
          clear hbel rv
          obtain ⟨q, hq, hg2, rfl, hbel⟩ := hrel
          by_cases hltq : q < nj
          · obtain ⟨d1, o1, e1, q1⟩ := HTV.out q hltq
            cases e1
            obtain ⟨d2, o2, e2, q2⟩ := HT.out (P + q) (show P + q < n by omega)
            cases e2
            rw [HTK.out q] at q1
            obtain ⟨d3, o3, e3, q3⟩ := HI.out (P + q) (show P + q < nd by omega)
            cases e3
            rw [Nat.mul_one] at q3
            have Q1 : Hid (TokAt wr.drew d1 (o1 + q * 5) (T (P + q))) := q1.below hbel.drew
            have Q2 : Hid (TokAt wr.drew d2 (o2 + (P + q) * 5) (T (P + q))) := q2.below hbel.drew
            have q3' := cell_b hbel q3
            obtain ⟨r0, r1, r2, r3, r4⟩ := q1.below hbel
            obtain ⟨s0, s1, s2, s3, s4⟩ := q2.below hbel
            have hns := HNS.out q hltq
            unfold cma at hns
            have hltI : (q : Int) < (nj : Int) := by omega
            have hPq : (P : Int) + (q : Int) < (n : Int) := by omega
            have hPd : (P : Int) + (q : Int) < (nd : Int) := by omega
            have HTc := hid3 (tok_any (T (P + q)) wr.drew)
            have HPc := hid3 (fun w2 => rrIsPunct_any (T (P + q)) ⟨#[44]⟩ w2)
            clear q1 q2 q3
            generalize T (P + q) = t at *
            unfold Tok.val at HTc HPc
            go_wp2_with fail
            go_region_with (go_at_call 31; (refine HTc.out.mono ?_; rintro e w2 ⟨rfl, hb2⟩; obtain ⟨m0, m1, m2, m3, m4⟩ := Q1.out.below hb2; obtain ⟨n0, n1, n2, n3, n4⟩ := Q2.out.below hb2; have nq := cell_b (((Below.refl _ wr).drew).trans hb2) q3'))
            all_goals
              rcases Bool.eq_false_or_eq_true (isP t ⟨#[44]⟩) with hp | hp
              · rw [hp, Bool.and_true] at hns
                rw [hp] at HPc
                go_wp2_with (go_at_call 35; refine (HPc.out _).mono ?_; rintro e w3 ⟨rfl, hb3⟩; have nq2 := cell_b hb3 nq)
                go_roundg (nj - (q + 1))
                case measure => omega
                case rel => exact ⟨q + 1, by omega, rfl, by go_num, (hbel.drew.trans (hb2.mono hbel.size)).trans (hb3.mono (Nat.le_trans hbel.size hb2.size))⟩
              · rw [hp] at HPc
                clear hns
                go_wp2_with (go_at_call 35; refine (HPc.out _).mono ?_; rintro e w3 ⟨rfl, hb3⟩)
                go_roundg (nj - (q + 1))
                case measure => omega
                case rel => exact ⟨q + 1, by omega, rfl, by go_num, (hbel.drew.trans (hb2.mono hbel.size)).trans (hb3.mono (Nat.le_trans hbel.size hb2.size))⟩
          · have d' : decide ((q : Int) < (nj : Int)) = false := decide_eq_false (by omega)
            rcases HNX.out with ⟨h1, h2⟩ | ⟨h1, h2, h3, h4, h5⟩
            · have d2 : decide ((j : Int) + 1 < (nV : Int)) = false := decide_eq_false (by have := HVN.out; omega)
              have HN : Hid (VAt T I A (c - A) L (j + 1) (P + nj)) := .inr ⟨h1, h2⟩
              clear h1 h2
              go_wp2
              go_roundg (nV - (j + 1))
              case measure => omega
              case rel => exact ⟨j + 1, P + nj, by omega, rfl, by go_num, by go_num, HN.out, hbel⟩
            · have d2 : (j : Int) + 1 < (nV : Int) := by have := HVN.out; omega
              have HN := hid3 h5
              obtain ⟨d3, o3, e3, q3⟩ := HI.out (P + nj) (show P + nj < nd by omega)
              cases e3
              rw [Nat.mul_one] at q3
              have Q3 := hid3 (cell_b hbel q3)
              have q3' := cell_b hbel q3
              obtain ⟨d4, o4, e4, q4⟩ := HT.out (P + nj) (show P + nj < n by omega)
              cases e4
              obtain ⟨s0, s1, s2, s3, s4⟩ := q4.below hbel
              have hPq : (P : Int) + (nj : Int) < (n : Int) := by omega
              have hPd : (P : Int) + (nj : Int) < (nd : Int) := by omega
              have dg : decide ((c : Int) ≤ (P : Int) + (nj : Int)) = false := decide_eq_false (by omega)
              have HPc := hid3 (rrIsPunct_any (T (P + nj)) ⟨#[44]⟩ wr)
              unfold Tok.val at HPc
              have h4' : isP (T (P + nj)) ⟨#[44]⟩ = true := h4
              rw [h4'] at HPc
              clear h1 h2 h4 h5 h4' q3 q4
              go_wp2_with (go_at_call 35; refine HPc.out.mono ?_; rintro e w2 ⟨rfl, hb2⟩; have y0 := cell_b hb2 Q3.out)
              go_roundg (nV - (j + 1))
              case measure => omega
              case rel => exact ⟨j + 1, P + nj + 1, by omega, rfl, by go_num, by go_num, HN.out, hbel.trans (hb2.mono hbel.size)⟩
      · have d' : decide ((j : Int) < (nV : Int)) = false := decide_eq_false (by omega)
        have dP : ((P : Int) == (c : Int)) = true := by
          have hvn := HVN.out
          rcases HP.out with ⟨h, -⟩ | ⟨h, h2⟩
          · omega
          · exact beq_iff_eq.2 (by omega)
        go_wp2
        go_ret
        exact ⟨rfl, hbel⟩
end Go.Proofs.Qxb6603997a
