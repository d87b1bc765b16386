import Derived.Test.Qxb6604309aLeaf
import Derived.Deep.DeepCutAuto
import Derived.Deep.CutBlock
namespace Go.Proofs.Qxb6604309a
open Go.RowKit

/-- What micro answers, before and behind rounding. -/
def roundM (D : List UInt8) (p q : Int) : Int := if 5 ≤ dgt D (p + 6) then m0 D p q + 1 else m0 D p q

set_option maxHeartbeats 400000 in
theorem micro_zero (a b : ByteArray) (p : Int) (w : World) (h : a.size + b.size ≤ 4194304) :
    Calls Try.prog 16 #[.agg #[.string a, .string b, .int .i64 p, .int .i64 ((a.size : Int) + (b.size : Int))]] w fun e w' => e = .returned (.tuple #[.int .i64 0, .bool true]) ∧ Below w.heap.size w w' := by
  go_enter Try.func16, Try.ntmps16
  go_wp2_with fail
  go_region_with (go_at_call 19; refine (n_any a b _ _ _ h).mono ?_; rintro e w' ⟨rfl, rfl⟩)
  all_goals go_wp2
  all_goals
    go_ret2
    exact ⟨rfl, (((Below.refl _ _).alloc (Nat.le_refl _) _).alloc (by simp) _).drew⟩

set_option maxHeartbeats 400000 in
theorem micro_big (a b : ByteArray) (p q : Int) (w : World) (h : a.size + b.size ≤ 4194304) (hp1 : -4611686018427387904 ≤ p) (hp2 : p ≤ 4611686018427387904) (hq0 : 0 ≤ q) (hq : q < (a.size : Int) + (b.size : Int)) (h9 : 9 < p - q) :
    Calls Try.prog 16 #[.agg #[.string a, .string b, .int .i64 p, .int .i64 q]] w fun e w' => e = .returned (.tuple #[.int .i64 0, .bool false]) ∧ Below w.heap.size w w' := by
  have hne : (q == (a.size : Int) + (b.size : Int)) = false := by simp; omega
  go_enter Try.func16, Try.ntmps16
  go_wp2_with fail
  go_region_with (go_at_call 19; refine (n_any a b _ _ _ h).mono ?_; rintro e w' ⟨rfl, rfl⟩)
  all_goals go_wp2
  all_goals
    go_ret2
    exact ⟨rfl, (((Below.refl _ _).alloc (Nat.le_refl _) _).alloc (by simp) _).drew⟩

set_option maxHeartbeats 1000000 in
theorem micro_num (a b : ByteArray) (p q : Int) (w : World) (h : a.size + b.size ≤ 4194304) (ha : AllD a.data.toList) (hb : AllD b.data.toList) (hp1 : -4611686018427387904 ≤ p) (hp2 : p ≤ 4611686018427387904) (hq0 : 0 ≤ q) (hq : q < (a.size : Int) + (b.size : Int)) (h9 : p - q ≤ 9) :
    Calls Try.prog 16 #[.agg #[.string a, .string b, .int .i64 p, .int .i64 q]] w fun e w' => e = .returned (.tuple #[.int .i64 (roundM (a.data.toList ++ b.data.toList) p q), .bool (decide (roundM (a.data.toList ++ b.data.toList) p q < 1000000000000000))]) ∧ Below w.heap.size w w' := by
  have hne : (q == (a.size : Int) + (b.size : Int)) = false := by simp; omega
  have h9d : decide (9 < p - q) = false := decide_eq_false (by omega)
  obtain ⟨D, hD⟩ : ∃ D, D = a.data.toList ++ b.data.toList := ⟨_, rfl⟩
  have HD : Hid (D = a.data.toList ++ b.data.toList) := hD
  have HAll : Hid (AllD D) := by unfold Hid; rw [hD]; exact ha.append hb
  have HA : Hid (AllD a.data.toList ∧ AllD b.data.toList) := ⟨ha, hb⟩
  rw [← hD]
  clear hD ha hb
  go_enter Try.func16, Try.ntmps16
  go_upto_region 1 with fail
  go_cut [10] (fun c wx => c = .bool false ∧ Below (w.heap.size + 1) (w.alloc (.cells #[.string a, .string b, .int .i64 p, .int .i64 q] 31)) wx)
  case first =>
    go_region_with (go_at_call 19; refine (n_any a b _ _ _ h).mono ?_; rintro e w' ⟨rfl, rfl⟩)
    all_goals go_wp2
    all_goals go_meet
    all_goals exact ⟨rfl, ((Below.refl _ _).alloc (by simp) _).drew⟩
  case rest =>
    obtain ⟨rfl, hbc⟩ := hcut
    have bx : ∀ {wz : World}, Below (w.heap.size + 1) (w.alloc (.cells #[.string a, .string b, .int .i64 p, .int .i64 q] 31)) wz → wz.cell? ⟨w.heap.size, 0, none⟩ = some (.string a) ∧ wz.cell? ⟨w.heap.size, 1, none⟩ = some (.string b) ∧ wz.cell? ⟨w.heap.size, 2, none⟩ = some (.int .i64 p) ∧ wz.cell? ⟨w.heap.size, 3, none⟩ = some (.int .i64 q) := by
      intro wz hz
      refine ⟨?_, ?_, ?_, ?_⟩
      · exact (hz.cell (p := ⟨w.heap.size, 0, none⟩) (Nat.lt_succ_self _)).trans (by simp [go_sem])
      · exact (hz.cell (p := ⟨w.heap.size, 1, none⟩) (Nat.lt_succ_self _)).trans (by simp [go_sem])
      · exact (hz.cell (p := ⟨w.heap.size, 2, none⟩) (Nat.lt_succ_self _)).trans (by simp [go_sem])
      · exact (hz.cell (p := ⟨w.heap.size, 3, none⟩) (Nat.lt_succ_self _)).trans (by simp [go_sem])
    have BX : Hid (∀ {wz : World}, Below (w.heap.size + 1) (w.alloc (.cells #[.string a, .string b, .int .i64 p, .int .i64 q] 31)) wz → wz.cell? ⟨w.heap.size, 0, none⟩ = some (.string a) ∧ wz.cell? ⟨w.heap.size, 1, none⟩ = some (.string b) ∧ wz.cell? ⟨w.heap.size, 2, none⟩ = some (.int .i64 p) ∧ wz.cell? ⟨w.heap.size, 3, none⟩ = some (.int .i64 q)) := bx
    clear bx
    obtain ⟨x0, x1, x2, x3⟩ := BX.out hbc
    go_wp2_with fail
    clear x0 x1 x2 x3
    go_loopg [4, 5] 16 (fun g v k wr => ∃ c : Nat, g = 16 - c ∧ c ≤ 15 ∧ ((c : Int) ≤ p + 6 - q ∨ c = 0) ∧ v = .int .i64 (V D q c) ∧ k = .int .i64 (q + c) ∧ Below (w.heap.size + 1) (w.alloc (.cells #[.string a, .string b, .int .i64 p, .int .i64 q] 31)) wr)
    case atStart => exact ⟨0, rfl, by omega, .inr rfl, rfl, by simp, hbc⟩
    case round =>
      obtain ⟨c, hg, hc, hcl, rfl, rfl, hbr⟩ := hrel
      obtain ⟨x0, x1, x2, x3⟩ := BX.out hbr
      have hV0 := (V_bd HAll.out q c).1
      by_cases hlt : q + (c : Int) < p + 6
      · have hV1 : V D q c < 10 ^ 14 := V_lt HAll.out q (by omega)
        have hV2 : V D q c ≤ 99999999999999 := by
          have : (10 : Int) ^ 14 = 100000000000000 := rfl
          omega
        have hdg := HAll.out.dgt (q + c)
        have HN : Hid (V D q (c + 1) = V D q c * 10 + dgt D (q + c)) := rfl
        clear hV1
        go_wp2_with fail
        refine (digit_any a b p q (q + c) wr h HA.out.1 HA.out.2).mono ?_
        rintro e w2 ⟨rfl, hb2⟩
        rw [← HD.out]
        have HB2 : Hid (Below (w.heap.size + 1) (w.alloc (.cells #[.string a, .string b, .int .i64 p, .int .i64 q] 31)) w2) := hbr.trans (hb2.mono (by have := hbr.size; simp at this; omega))
        generalize V D q c = v at *
        generalize dgt D (q + c) = dg at *
        clear hb2 x0 x1 x2 x3
        go_wp2_with fail
        go_roundg (16 - (c + 1))
        case measure => omega
        case rel => exact ⟨c + 1, rfl, by omega, .inl (by omega), by rw [HN.out], by go_num, HB2.out⟩
      · have HC : Hid (c = cntM p q) := by unfold Hid cntM; omega
        have hV1 : V D q c < 10 ^ 15 := V_lt HAll.out q (by omega)
        have hV2 : V D q c ≤ 999999999999999 := by
          have : (10 : Int) ^ 15 = 1000000000000000 := rfl
          omega
        have HM : Hid (V D q c = m0 D p q) := by unfold Hid m0; rw [← HC.out]
        clear hV1
        go_wp2_with fail
        refine (digit_any a b p q (p + 6) wr h HA.out.1 HA.out.2).mono ?_
        rintro e w2 ⟨rfl, hb2⟩
        rw [← HD.out]
        have HB2 : Hid (Below w.heap.size w w2) := ((Below.refl _ _).alloc (Nat.le_refl _) _).trans ((hbr.trans (hb2.mono (by have := hbr.size; simp at this; omega))).mono (by omega))
        have HR : Hid (roundM D p q = if 5 ≤ dgt D (p + 6) then V D q c + 1 else V D q c) := by unfold Hid roundM; rw [HM.out]
        clear HM hb2 x0 x1 x2 x3
        generalize V D q c = v at *
        generalize dgt D (p + 6) = dg at *
        by_cases h5 : 5 ≤ dg
        · have HR2 : Hid (roundM D p q = v + 1) := by have := HR.out; rwa [if_pos h5] at this
          go_wp2
          go_ret2
          exact ⟨by rw [HR2.out]; rfl, HB2.out⟩
        · have HR2 : Hid (roundM D p q = v) := by have := HR.out; rwa [if_neg h5] at this
          go_wp2
          go_ret2
          exact ⟨by rw [HR2.out]; rfl, HB2.out⟩
end Go.Proofs.Qxb6604309a
