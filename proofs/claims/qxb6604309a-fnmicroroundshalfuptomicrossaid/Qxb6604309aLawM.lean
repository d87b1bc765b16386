import Derived.Test.Qxb6604309aMicro
import Derived.Test.Qxb6604309aCols
namespace Go.Proofs.Qxb6604309a
open Go.RowKit

theorem zz8_no (a b : ByteArray) (p q : Int) (w : World) (h : 1048576 < (a.size : Int) + (b.size : Int)) :
    Calls Try.prog 8 #[.string a, .string b, .int .i64 p, .int .i64 q] w fun e w' => e = .returned (.bool false) ∧ w' = w := by
  by_cases h1 : 1048576 < (a.size : Int)
  · go_enter Try.func8, Try.ntmps8
    go_wp2
    go_ret
    exact ⟨rfl, rfl⟩
  by_cases h2 : 1048576 < (b.size : Int)
  · go_enter Try.func8, Try.ntmps8
    go_wp2
    go_ret
    exact ⟨rfl, rfl⟩
  · go_enter Try.func8, Try.ntmps8
    go_wp2
    go_ret
    exact ⟨rfl, rfl⟩
theorem zz8_yes (a b : ByteArray) (p q : Int) (w : World) (h : ¬ 1048576 < (a.size : Int) + (b.size : Int)) :
    Calls Try.prog 8 #[.string a, .string b, .int .i64 p, .int .i64 q] w fun e w' => e = .returned (.bool true) ∧ w' = w := by
  have h1 : ¬ 1048576 < (a.size : Int) := by omega
  have h2 : ¬ 1048576 < (b.size : Int) := by omega
  go_enter Try.func8, Try.ntmps8
  go_wp2
  go_ret
  exact ⟨rfl, rfl⟩

def DomAns (a b : ByteArray) (p q : Int) (e : Ending) : Prop :=
  ∃ x : Bool, e = .returned (.bool x) ∧ (x = true → -4611686018427387904 ≤ p ∧ p ≤ 4611686018427387904 ∧ AllD a.data.toList ∧ AllD b.data.toList ∧ q = ((lead0 (a.data.toList ++ b.data.toList) : Nat) : Int))

set_option maxHeartbeats 400000 in
theorem domain_any (a b : ByteArray) (p q : Int) (w : World) (hs : a.size + b.size ≤ 4194304) :
    Calls Try.prog 9 #[.string a, .string b, .int .i64 p, .int .i64 q] w fun e w' => DomAns a b p q e ∧ w' = w := by
  by_cases hp1 : p < -4611686018427387904
  · go_enter Try.func9, Try.ntmps9
    go_wp2
    go_ret
    exact ⟨⟨false, rfl, fun h => by cases h⟩, rfl⟩
  by_cases hp2 : 4611686018427387904 < p
  · go_enter Try.func9, Try.ntmps9
    go_wp2
    go_ret
    exact ⟨⟨false, rfl, fun h => by cases h⟩, rfl⟩
  have ca := allDigits_any a w (by omega)
  have cb := allDigits_any b w (by omega)
  have cf := firstNonZero_any a b w hs
  have HA : Hid (allB a.data.toList = true → AllD a.data.toList) := (allB_iff _).1
  have HB : Hid (allB b.data.toList = true → AllD b.data.toList) := (allB_iff _).1
  generalize allB a.data.toList = xa at ca HA
  generalize allB b.data.toList = xb at cb HB
  have HF : Hid (∃ f, f = lead0 (a.data.toList ++ b.data.toList)) := ⟨_, rfl⟩
  obtain ⟨f, hf⟩ := HF.out
  rw [← hf] at cf
  have HFF : Hid (f = lead0 (a.data.toList ++ b.data.toList)) := hf
  clear hf HF
  cases xa
  · go_enter Try.func9, Try.ntmps9
    go_wp2_with fail
    refine ca.mono ?_
    rintro e wx ⟨rfl, hw⟩
    rw [hw]
    clear hw wx ca
    go_wp2
    go_ret
    exact ⟨⟨false, rfl, fun h => by cases h⟩, rfl⟩
  · cases xb
    · go_enter Try.func9, Try.ntmps9
      go_wp2_with fail
      refine ca.mono ?_
      rintro e wx ⟨rfl, hw⟩
      rw [hw]
      clear hw wx ca
      go_wp2_with fail
      refine cb.mono ?_
      rintro e wx ⟨rfl, hw⟩
      rw [hw]
      clear hw wx cb
      go_wp2
      go_ret
      exact ⟨⟨false, rfl, fun h => by cases h⟩, rfl⟩
    · have HQ : Hid ((q == (f : Int)) = true → q = (f : Int)) := fun h => by simpa using h
      go_enter Try.func9, Try.ntmps9
      go_wp2_with fail
      refine ca.mono ?_
      rintro e wx ⟨rfl, hw⟩
      rw [hw]
      clear hw wx ca
      go_wp2_with fail
      refine cb.mono ?_
      rintro e wx ⟨rfl, hw⟩
      rw [hw]
      clear hw wx cb
      go_wp2_with fail
      refine cf.mono ?_
      rintro e wx ⟨rfl, hw⟩
      rw [hw]
      clear hw wx cf
      go_wp2
      go_ret
      refine ⟨⟨q == (f : Int), rfl, fun h => ⟨by omega, by omega, HA.out (by simp), HB.out (by simp), ?_⟩⟩, rfl⟩
      rw [HQ.out h, HFF.out]

/-- What micro answers, all three ways. -/
def MicroAns (D : List UInt8) (p : Int) (e : Ending) : Prop :=
  (lead0 D = D.length ∧ e = .returned (.tuple #[.int .i64 0, .bool true])) ∨
  (lead0 D < D.length ∧ 10 ≤ p - lead0 D ∧ e = .returned (.tuple #[.int .i64 0, .bool false])) ∨
  (lead0 D < D.length ∧ p - lead0 D ≤ 9 ∧ e = .returned (.tuple #[.int .i64 (roundM D p (lead0 D)), .bool (decide (roundM D p (lead0 D) < 1000000000000000))]))

theorem micro_any (a b : ByteArray) (p q : Int) (w : World) (h : a.size + b.size ≤ 4194304) (ha : AllD a.data.toList) (hb : AllD b.data.toList) (hp1 : -4611686018427387904 ≤ p) (hp2 : p ≤ 4611686018427387904) (hq : q = ((lead0 (a.data.toList ++ b.data.toList) : Nat) : Int)) :
    Calls Try.prog 16 #[.agg #[.string a, .string b, .int .i64 p, .int .i64 q]] w fun e w' => MicroAns (a.data.toList ++ b.data.toList) p e ∧ Below w.heap.size w w' := by
  have hl := lead0_le (a.data.toList ++ b.data.toList)
  have hlen : (a.data.toList ++ b.data.toList).length = a.size + b.size := by rw [List.length_append, size_list, size_list]
  by_cases h0 : lead0 (a.data.toList ++ b.data.toList) = (a.data.toList ++ b.data.toList).length
  · have : q = (a.size : Int) + (b.size : Int) := by omega
    subst this
    refine (micro_zero a b p w h).mono ?_
    rintro e w' ⟨rfl, hbel⟩
    exact ⟨.inl ⟨h0, rfl⟩, hbel⟩
  · by_cases h9 : 9 < p - q
    · refine (micro_big a b p q w h hp1 hp2 (by omega) (by omega) h9).mono ?_
      rintro e w' ⟨rfl, hbel⟩
      exact ⟨.inr (.inl ⟨by omega, by omega, rfl⟩), hbel⟩
    · refine (micro_num a b p q w h ha hb hp1 hp2 (by omega) (by omega) (by omega)).mono ?_
      rintro e w' ⟨rfl, hbel⟩
      exact ⟨.inr (.inr ⟨by omega, by omega, by rw [hq]⟩), hbel⟩

def Ans2 (D : List UInt8) (p : Int) (g : Int) (ok : Bool) : Prop :=
  (lead0 D = D.length ∧ g = 0 ∧ ok = true) ∨ (lead0 D < D.length ∧ 10 ≤ p - lead0 D ∧ g = 0 ∧ ok = false) ∨
  (lead0 D < D.length ∧ p - lead0 D ≤ 9 ∧ g = roundM D p (lead0 D) ∧ ok = decide (g < 1000000000000000))
def MicroAns2 (D : List UInt8) (p : Int) (e : Ending) : Prop := ∃ g ok, e = .returned (.tuple #[.int .i64 g, .bool ok]) ∧ Ans2 D p g ok

set_option maxHeartbeats 400000 in
theorem zzMicro_any (a b : ByteArray) (p q : Int) (w : World) (h : a.size + b.size ≤ 4194304) (ha : AllD a.data.toList) (hb : AllD b.data.toList) (hp1 : -4611686018427387904 ≤ p) (hp2 : p ≤ 4611686018427387904) (hq : q = ((lead0 (a.data.toList ++ b.data.toList) : Nat) : Int)) :
    Calls Try.prog 10 #[.string a, .string b, .int .i64 p, .int .i64 q] w fun e w' => MicroAns2 (a.data.toList ++ b.data.toList) p e ∧ Below w.heap.size w w' := by
  have hc := micro_any a b p q w h ha hb hp1 hp2 hq
  have hc2 : Calls Try.prog 16 #[.agg #[.string a, .string b, .int .i64 p, .int .i64 q]] w fun e w' => MicroAns2 (a.data.toList ++ b.data.toList) p e ∧ Below w.heap.size w w' := by
    refine hc.mono ?_
    rintro e w' ⟨hm, hbel⟩
    refine ⟨?_, hbel⟩
    rcases hm with ⟨h1, rfl⟩ | ⟨h1, h2, rfl⟩ | ⟨h1, h2, rfl⟩
    · exact ⟨_, _, rfl, .inl ⟨h1, rfl, rfl⟩⟩
    · exact ⟨_, _, rfl, .inr (.inl ⟨h1, h2, rfl, rfl⟩)⟩
    · exact ⟨_, _, rfl, .inr (.inr ⟨h1, h2, rfl, rfl⟩)⟩
  clear hc ha hb hq
  go_enter Try.func10, Try.ntmps10
  go_wp2_with fail
  refine hc2.mono ?_
  rintro e w' ⟨⟨g, ok, rfl, hans⟩, hbel⟩
  have HANS : Hid (Ans2 (a.data.toList ++ b.data.toList) p g ok) := hans
  clear hans hc2
  go_wp2
  go_ret2
  exact ⟨⟨g, ok, rfl, HANS.out⟩, hbel⟩

/-- The plain law. -/
theorem law_plain (D : List UInt8) (p : Int) (hD : AllD D) (g : Int) (ok : Bool) (z r : Bool) (v : Int) (h1 : Ans2 D p g ok) (h2 : Cols D p z r v) :
    (z = true ∧ g = 0 ∧ ok = true) ∨ (z = false ∧ r = true ∧ g = 0 ∧ ok = false) ∨
    (z = false ∧ r = false ∧ 0 ≤ g ∧ 0 ≤ v ∧ v ≤ 10000000000000000 ∧ g ≤ v / 10 + 1 ∧ 10 * g - 5 ≤ v ∧ v < 10 * g + 5 ∧ ok = decide (g < 1000000000000000)) := by
  rcases h1 with ⟨a1, a2, a3⟩ | ⟨a1, a2, a3, a4⟩ | ⟨a1, a2, a3, a4⟩
  · rcases h2 with ⟨b1, b2, b3, b4⟩ | ⟨b1, _⟩ | ⟨b1, _⟩
    · exact .inl ⟨b2, a2, a3⟩
    · omega
    · omega
  · rcases h2 with ⟨b1, b2, b3, b4⟩ | ⟨b1, b2, b3, b4, b5⟩ | ⟨b1, b2, _⟩
    · omega
    · exact .inr (.inl ⟨b3, b4, a3, a4⟩)
    · omega
  · rcases h2 with ⟨b1, b2, b3, b4⟩ | ⟨b1, b2, b3, b4, b5⟩ | ⟨b1, b2, b3, b4, b5⟩
    · omega
    · omega
    · have hv := v7_m0 D p (lead0 D) (lead_of D)
      have hd := hD.dgt (p + 6)
      have hm := (V_bd hD (lead0 D) (cntM p (lead0 D))).1
      have hm1 : V D (lead0 D) (cntM p (lead0 D)) < 10 ^ 15 := V_lt hD _ (by unfold cntM; omega)
      have e15 : (10 : Int) ^ 15 = 1000000000000000 := rfl
      have hm0 : 0 ≤ m0 D p (lead0 D) := hm
      have hm2 : m0 D p (lead0 D) < 1000000000000000 := by unfold m0; omega
      unfold roundM at a3
      refine .inr (.inr ⟨b3, b4, ?_, ?_, ?_, ?_, ?_, ?_, a4⟩)
      all_goals (split at a3 <;> omega)

set_option maxRecDepth 100000 in
set_option maxHeartbeats 1000000 in
theorem lawM_any (a b : ByteArray) (p q : Int) (w : World) :
    Calls Try.prog 4 #[.string a, .string b, .int .i64 p, .int .i64 q] w fun e w' => e = .returned (.bool true) ∧ Below w.heap.size w w' := by
  by_cases h : 1048576 < (a.size : Int) + (b.size : Int)
  · have hz := zz8_no a b p q w h
    go_enter Try.func4, Try.ntmps4
    go_wp2_with fail
    refine hz.mono ?_
    rintro e wx ⟨rfl, hw⟩
    rw [hw]
    clear hw wx hz
    go_wp2
    go_ret
    exact ⟨rfl, Below.refl _ _⟩
  have hz := zz8_yes a b p q w h
  have hdom := domain_any a b p q w (by omega)
  have hdec : decide (1048576 < (a.size : Int) + (b.size : Int)) = false := decide_eq_false h
  go_enter Try.func4, Try.ntmps4
  go_wp2_with fail
  refine hz.mono ?_
  rintro e wx ⟨rfl, hw⟩
  rw [hw]
  clear hw wx hz
  go_wp2_with fail
  refine hdom.mono ?_
  rintro e wx ⟨⟨x, rfl, hx⟩, hw⟩
  rw [hw]
  clear hw wx hdom
  cases x
  · go_wp2
    go_ret
    exact ⟨rfl, Below.refl _ _⟩
  obtain ⟨hp1, hp2, ha, hb, hq⟩ := hx rfl
  have HAD : Hid (AllD (a.data.toList ++ b.data.toList)) := ha.append hb
  have hmi := zzMicro_any a b p q w (by omega) ha hb hp1 hp2 hq
  have hco := fun wz => cols_any a b p wz (by omega) ha hb hp1 hp2
  have HCO : Hid (∀ wz, Calls Try.prog 11 #[.string a, .string b, .int .i64 p] wz fun e w' => ColsAns (a.data.toList ++ b.data.toList) p e ∧ w' = wz) := hco
  clear hx ha hb hq hco
  go_wp2_with fail
  refine hmi.mono ?_
  rintro e w2 ⟨⟨g, ok, rfl, hans⟩, hb2⟩
  clear hmi
  have HANS : Hid (Ans2 (a.data.toList ++ b.data.toList) p g ok) := hans
  have HB2 : Hid (Below w.heap.size w w2) := hb2
  clear hans hb2
  go_wp2_with fail
  refine (HCO.out w2).mono ?_
  rintro e wx ⟨⟨z, r, v, rfl, hcol⟩, hw⟩
  rw [hw]
  clear hw wx HCO
  have hfin := law_plain _ p HAD.out g ok z r v HANS.out hcol
  clear hcol HANS HAD
  rcases hfin with ⟨rfl, rfl, rfl⟩ | ⟨rfl, rfl, rfl, rfl⟩ | ⟨rfl, rfl, g0, v0, v1, g1, g2, g3, rfl⟩
  · go_wp2
    go_ret
    exact ⟨rfl, HB2.out⟩
  · go_wp2
    go_ret
    exact ⟨rfl, HB2.out⟩
  · have hg : g ≤ 10000000000000000 := by omega
    have d1 : decide (g < 0) = false := decide_eq_false (by omega)
    have d2 : decide (v / 10 + 1 < g) = false := decide_eq_false (by omega)
    have d3 : decide (10 * g - 5 ≤ v) = true := decide_eq_true g2
    have d4 : decide (v < 10 * g + 5) = true := decide_eq_true g3
    go_wp2
    go_ret
    exact ⟨by simp, HB2.out⟩
end Go.Proofs.Qxb6604309a
