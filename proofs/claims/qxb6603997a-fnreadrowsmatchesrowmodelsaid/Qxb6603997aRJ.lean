import Derived.Test.Qxb6603997aRM
namespace Go.Proofs.Qxb6603997a
open Go.RowKit

/-- Some size, within bounds. -/
def SizeAns (e : Ending) : Prop := ∃ r : Int, e = .returned (.int .i64 r) ∧ 0 ≤ r ∧ r ≤ 268435456

theorem rrAdd_any (t n c : Int) (w : World) (ht : 0 ≤ t) (hc : 0 ≤ c) (hc2 : c ≤ 80) :
    Calls Try.prog 28 #[.int .i64 t, .int .i64 n, .int .i64 c] w fun e w' => SizeAns e ∧ w' = w := by
  have HBAD : Hid (SizeAns (.returned (.int .i64 1048577))) := ⟨_, rfl, by omega, by omega⟩
  by_cases h1 : 1048576 < t
  · go_enter Try.func28, Try.ntmps28
    go_wp2
    go_ret
    exact ⟨HBAD.out, rfl⟩
  have d1 : decide (1048576 < t) = false := decide_eq_false h1
  by_cases h2 : n < 0
  · go_enter Try.func28, Try.ntmps28
    go_wp2
    go_ret
    exact ⟨HBAD.out, rfl⟩
  have d2 : decide (n < 0) = false := decide_eq_false h2
  by_cases h3 : 1048576 < n
  · go_enter Try.func28, Try.ntmps28
    go_wp2
    go_ret
    exact ⟨HBAD.out, rfl⟩
  have d3 : decide (1048576 < n) = false := decide_eq_false h3
  have p0 : 0 ≤ n * c := Int.mul_nonneg (by omega) hc
  have p1 : n * c ≤ 1048576 * 80 := Int.mul_le_mul (by omega) hc2 hc (by omega)
  have HOK : Hid (SizeAns (.returned (.int .i64 (t + n * c)))) := ⟨_, rfl, by omega, by omega⟩
  go_enter Try.func28, Try.ntmps28
  go_wp2
  go_ret
  exact ⟨HOK.out, rfl⟩

set_option maxHeartbeats 1000000 in
theorem tokSize_any (h : Hd) (T : Nat → Tok) (t : Int) (w : World) (ht : ToksAt w h T) (h0 : 0 ≤ t) (hm : h.n ≤ maxLen) :
    Calls Try.prog 27 #[.int .i64 t, h.val] w fun e w' => SizeAns e ∧ w' = w := by
  obtain ⟨a, n, cap⟩ := h
  have HT : Hid (ToksAt w ⟨a, n, cap⟩ T) := ht
  have hm' : (n : Int) ≤ 9223372036854775807 := by have : n ≤ 9223372036854775807 := hm; omega
  clear ht hm
  unfold Hd.val
  go_enter Try.func27, Try.ntmps27
  go_wp2_with (go_at_call 28; refine (rrAdd_any _ _ _ _ (by omega) (by omega) (by omega)).mono ?_; rintro e w' ⟨⟨r, rfl, hr0, hr1⟩, hw⟩; rw [hw]; clear hw w')
  go_loopg [0, 5] n (fun g v i wr => ∃ (k : Nat) (r : Int), k ≤ n ∧ g = n - k ∧ i = .int .i64 k ∧ v = .int .i64 r ∧ 0 ≤ r ∧ r ≤ 268435456 ∧ wr = w)
  case atStart => exact ⟨0, r, Nat.zero_le _, rfl, rfl, rfl, hr0, hr1, rfl⟩
  case round =>
    clear hr0 hr1
    obtain ⟨k, r, hk, hg, rfl, rfl, hr0, hr1, rfl⟩ := hrel
    by_cases hlt : k < n
    · by_cases hle : r ≤ 1048576
      · obtain ⟨b, off, he, hc⟩ := HT.out k hlt
        cases he
        have c1 := hc.c1
        clear hc
        generalize (T k).text = tx at *
        go_wp2_with (go_at_call 28; refine (rrAdd_any _ _ _ _ (by omega) (by omega) (by omega)).mono ?_; rintro e w' ⟨⟨r2, rfl, hr2, hr3⟩, rfl⟩)
        go_roundg (n - (k + 1))
        case measure => omega
        case rel => exact ⟨k + 1, r2, by omega, rfl, by go_num, rfl, hr2, hr3, rfl⟩
      · have d : decide (r ≤ 1048576) = false := decide_eq_false hle
        go_wp2
        go_ret
        exact ⟨⟨r, rfl, hr0, hr1⟩, rfl⟩
    · have d : decide ((k : Int) < (n : Int)) = false := decide_eq_false (by omega)
      go_wp2
      go_ret
      exact ⟨⟨r, rfl, hr0, hr1⟩, rfl⟩

set_option maxHeartbeats 1000000 in
theorem strSize_any (h : Hd) (T : Nat → ByteArray) (t : Int) (w : World) (ht : StrsAt w h T) (h0 : 0 ≤ t) (hm : h.n ≤ maxLen) :
    Calls Try.prog 29 #[.int .i64 t, h.val] w fun e w' => SizeAns e ∧ w' = w := by
  obtain ⟨a, n, cap⟩ := h
  have HT : Hid (StrsAt w ⟨a, n, cap⟩ T) := ht
  have hm' : (n : Int) ≤ 9223372036854775807 := by have : n ≤ 9223372036854775807 := hm; omega
  clear ht hm
  unfold Hd.val
  go_enter Try.func29, Try.ntmps29
  go_wp2_with (go_at_call 28; refine (rrAdd_any _ _ _ _ (by omega) (by omega) (by omega)).mono ?_; rintro e w' ⟨⟨r, rfl, hr0, hr1⟩, hw⟩; rw [hw]; clear hw w')
  go_loopg [0, 5] n (fun g v i wr => ∃ (k : Nat) (r : Int), k ≤ n ∧ g = n - k ∧ i = .int .i64 k ∧ v = .int .i64 r ∧ 0 ≤ r ∧ r ≤ 268435456 ∧ wr = w)
  case atStart => exact ⟨0, r, Nat.zero_le _, rfl, rfl, rfl, hr0, hr1, rfl⟩
  case round =>
    clear hr0 hr1
    obtain ⟨k, r, hk, hg, rfl, rfl, hr0, hr1, rfl⟩ := hrel
    by_cases hlt : k < n
    · by_cases hle : r ≤ 1048576
      · obtain ⟨b, off, he, hc⟩ := HT.out k hlt
        cases he
        rw [Nat.mul_one] at hc
        generalize T k = tx at *
        go_wp2_with (go_at_call 28; refine (rrAdd_any _ _ _ _ (by omega) (by omega) (by omega)).mono ?_; rintro e w' ⟨⟨r2, rfl, hr2, hr3⟩, rfl⟩)
        go_roundg (n - (k + 1))
        case measure => omega
        case rel => exact ⟨k + 1, r2, by omega, rfl, by go_num, rfl, hr2, hr3, rfl⟩
      · have d : decide (r ≤ 1048576) = false := decide_eq_false hle
        go_wp2
        go_ret
        exact ⟨⟨r, rfl, hr0, hr1⟩, rfl⟩
    · have d : decide ((k : Int) < (n : Int)) = false := decide_eq_false (by omega)
      go_wp2
      go_ret
      exact ⟨⟨r, rfl, hr0, hr1⟩, rfl⟩
end Go.Proofs.Qxb6603997a
