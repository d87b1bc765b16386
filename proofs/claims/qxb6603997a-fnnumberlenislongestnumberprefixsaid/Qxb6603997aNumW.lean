import Derived.Test.Qxb6603997aNum
namespace Go.Proofs.Qxb6603997a
open Go.RowKit
set_option linter.unusedSimpArgs false

theorem size_list (s : ByteArray) : s.data.toList.length = s.size := by rw [Array.length_toList]; rfl
theorem drop_at (s : ByteArray) (k : Nat) (h : k < s.size) : s.data.toList.drop k = s[k] :: s.data.toList.drop (k + 1) := by
  rw [List.drop_eq_getElem_cons (by rw [size_list]; exact h)]; rfl
theorem hd_at (s : ByteArray) (k : Nat) (h : k < s.size) : hd (s.data.toList.drop k) = s[k].toNat := by rw [drop_at s k h]; rfl
theorem hd_end (s : ByteArray) (k : Nat) (h : s.size ≤ k) : hd (s.data.toList.drop k) = 0 := by rw [List.drop_of_length_le (by rw [size_list]; exact h)]; rfl
theorem cnt_at (p : Nat → Bool) (s : ByteArray) (k : Nat) (h : k < s.size) : cnt p (s.data.toList.drop k) = if p s[k].toNat then cnt p (s.data.toList.drop (k + 1)) + 1 else 0 := by rw [drop_at s k h]; rfl
theorem cnt_end (p : Nat → Bool) (s : ByteArray) (k : Nat) (h : s.size ≤ k) : cnt p (s.data.toList.drop k) = 0 := by rw [List.drop_of_length_le (by rw [size_list]; exact h)]; rfl

theorem ret_bool {a b : Bool} (h : a = b) : Ending.returned (.bool a) = .returned (.bool b) := by rw [h]
theorem ret_int {k : IntKind} {a b : Int} (h : a = b) : Ending.returned (.int k a) = .returned (.int k b) := by rw [h]

theorem isDigit_any (n : Nat) (w : World) :
    Calls Try.prog 38 #[.int .u8 (n : Int)] w fun e w' => e = .returned (.bool (isD n)) ∧ w' = w := by
  by_cases h : 48 ≤ n
  · have E : Hid (decide ((n : Int) ≤ 57) = isD n) := by unfold Hid; simp [isD, h]; omega
    go_enter Try.func38, Try.ntmps38
    go_wp2
    go_ret
    exact ⟨ret_bool E.out, rfl⟩
  · have E : Hid (false = isD n) := by unfold Hid; simp [isD, h]
    go_enter Try.func38, Try.ntmps38
    go_wp2
    go_ret
    exact ⟨ret_bool E.out, rfl⟩

theorem nlDigit_any (n : Nat) (w : World) :
    Calls Try.prog 39 #[.int .u8 (n : Int)] w fun e w' => e = .returned (.bool (isD n)) ∧ w' = w := by
  by_cases h : 48 ≤ n
  · have E : Hid (decide ((n : Int) ≤ 57) = isD n) := by unfold Hid; simp [isD, h]; omega
    go_enter Try.func39, Try.ntmps39
    go_wp2
    go_ret
    exact ⟨ret_bool E.out, rfl⟩
  · have E : Hid (false = isD n) := by unfold Hid; simp [isD, h]
    go_enter Try.func39, Try.ntmps39
    go_wp2
    go_ret
    exact ⟨ret_bool E.out, rfl⟩

set_option maxHeartbeats 400000 in
theorem isHex_any (n : Nat) (w : World) :
    Calls Try.prog 37 #[.int .u8 (n : Int)] w fun e w' => e = .returned (.bool (isH n)) ∧ w' = w := by
  have HE : Hid (isH n = (isD n || (decide (97 ≤ n) && decide (n ≤ 102)) || (decide (65 ≤ n) && decide (n ≤ 70)))) := rfl
  by_cases hd : isD n = true
  · have e : true = isH n := by rw [HE.out, hd]; rfl
    have HE2 : Hid (true = isH n) := e
    clear e HE
    go_enter Try.func37, Try.ntmps37
    go_wp2_with (go_at_call 38; refine (isDigit_any n _).mono ?_; rintro e w' ⟨rfl, rfl⟩)
    go_ret
    exact ⟨ret_bool HE2.out, rfl⟩
  · have hd' : isD n = false := by simpa using hd
    clear hd
    by_cases h1 : 97 ≤ n
    · by_cases h2 : n ≤ 102
      · have HE2 : Hid (true = isH n) := by unfold Hid; rw [HE.out]; simp [h1, h2]
        clear HE
        go_enter Try.func37, Try.ntmps37
        go_wp2_with (go_at_call 38; refine (isDigit_any n _).mono ?_; rintro e w' ⟨rfl, rfl⟩)
        go_ret
        exact ⟨ret_bool (by rw [← HE2.out]; try (first | (simp; done) | (simp; omega))), rfl⟩
      · have HE2 : Hid (false = isH n) := by unfold Hid; rw [HE.out, hd']; simp [h2]; omega
        clear HE
        go_enter Try.func37, Try.ntmps37
        go_wp2_with (go_at_call 38; refine (isDigit_any n _).mono ?_; rintro e w' ⟨rfl, rfl⟩)
        go_ret
        exact ⟨ret_bool (by rw [← HE2.out]; try (first | (simp; done) | (simp; omega))), rfl⟩
    · by_cases h3 : 65 ≤ n
      · by_cases h4 : n ≤ 70
        · have HE2 : Hid (true = isH n) := by unfold Hid; rw [HE.out]; simp [h3, h4]
          clear HE
          go_enter Try.func37, Try.ntmps37
          go_wp2_with (go_at_call 38; refine (isDigit_any n _).mono ?_; rintro e w' ⟨rfl, rfl⟩)
          go_ret
          exact ⟨ret_bool (by rw [← HE2.out]; try (first | (simp; done) | (simp; omega))), rfl⟩
        · have HE2 : Hid (false = isH n) := by unfold Hid; rw [HE.out, hd']; simp [h1, h4]
          clear HE
          go_enter Try.func37, Try.ntmps37
          go_wp2_with (go_at_call 38; refine (isDigit_any n _).mono ?_; rintro e w' ⟨rfl, rfl⟩)
          go_ret
          exact ⟨ret_bool (by rw [← HE2.out]; try (first | (simp; done) | (simp; omega))), rfl⟩
      · have HE2 : Hid (false = isH n) := by unfold Hid; rw [HE.out, hd']; simp [h1, h3]
        clear HE
        go_enter Try.func37, Try.ntmps37
        go_wp2_with (go_at_call 38; refine (isDigit_any n _).mono ?_; rintro e w' ⟨rfl, rfl⟩)
        go_ret
        exact ⟨ret_bool HE2.out, rfl⟩

set_option maxHeartbeats 400000 in
theorem nlHex_any (n : Nat) (w : World) :
    Calls Try.prog 40 #[.int .u8 (n : Int)] w fun e w' => e = .returned (.bool (isH n)) ∧ w' = w := by
  have HE : Hid (isH n = (isD n || (decide (97 ≤ n) && decide (n ≤ 102)) || (decide (65 ≤ n) && decide (n ≤ 70)))) := rfl
  by_cases hd : isD n = true
  · have e : true = isH n := by rw [HE.out, hd]; rfl
    have HE2 : Hid (true = isH n) := e
    clear e HE
    go_enter Try.func40, Try.ntmps40
    go_wp2_with (go_at_call 39; refine (nlDigit_any n _).mono ?_; rintro e w' ⟨rfl, rfl⟩)
    go_ret
    exact ⟨ret_bool HE2.out, rfl⟩
  · have hd' : isD n = false := by simpa using hd
    clear hd
    by_cases h1 : 97 ≤ n
    · by_cases h2 : n ≤ 102
      · have HE2 : Hid (true = isH n) := by unfold Hid; rw [HE.out]; simp [h1, h2]
        clear HE
        go_enter Try.func40, Try.ntmps40
        go_wp2_with (go_at_call 39; refine (nlDigit_any n _).mono ?_; rintro e w' ⟨rfl, rfl⟩)
        go_ret
        exact ⟨ret_bool (by rw [← HE2.out]; try (first | (simp; done) | (simp; omega))), rfl⟩
      · have HE2 : Hid (false = isH n) := by unfold Hid; rw [HE.out, hd']; simp [h2]; omega
        clear HE
        go_enter Try.func40, Try.ntmps40
        go_wp2_with (go_at_call 39; refine (nlDigit_any n _).mono ?_; rintro e w' ⟨rfl, rfl⟩)
        go_ret
        exact ⟨ret_bool (by rw [← HE2.out]; try (first | (simp; done) | (simp; omega))), rfl⟩
    · by_cases h3 : 65 ≤ n
      · by_cases h4 : n ≤ 70
        · have HE2 : Hid (true = isH n) := by unfold Hid; rw [HE.out]; simp [h3, h4]
          clear HE
          go_enter Try.func40, Try.ntmps40
          go_wp2_with (go_at_call 39; refine (nlDigit_any n _).mono ?_; rintro e w' ⟨rfl, rfl⟩)
          go_ret
          exact ⟨ret_bool (by rw [← HE2.out]; try (first | (simp; done) | (simp; omega))), rfl⟩
        · have HE2 : Hid (false = isH n) := by unfold Hid; rw [HE.out, hd']; simp [h1, h4]
          clear HE
          go_enter Try.func40, Try.ntmps40
          go_wp2_with (go_at_call 39; refine (nlDigit_any n _).mono ?_; rintro e w' ⟨rfl, rfl⟩)
          go_ret
          exact ⟨ret_bool (by rw [← HE2.out]; try (first | (simp; done) | (simp; omega))), rfl⟩
      · have HE2 : Hid (false = isH n) := by unfold Hid; rw [HE.out, hd']; simp [h1, h3]
        clear HE
        go_enter Try.func40, Try.ntmps40
        go_wp2_with (go_at_call 39; refine (nlDigit_any n _).mono ?_; rintro e w' ⟨rfl, rfl⟩)
        go_ret
        exact ⟨ret_bool HE2.out, rfl⟩

theorem nlAccepting_any (st : Nat) (w : World) :
    Calls Try.prog 26 #[.int .i64 (st : Int)] w fun e w' => e = .returned (.bool (accN st)) ∧ w' = w := by
  by_cases h1 : st = 1
  · subst h1; go_enter Try.func26, Try.ntmps26; go_wp2; go_ret; exact ⟨rfl, rfl⟩
  by_cases h2 : st = 2
  · subst h2; go_enter Try.func26, Try.ntmps26; go_wp2; go_ret; exact ⟨rfl, rfl⟩
  by_cases h4 : st = 4
  · subst h4; go_enter Try.func26, Try.ntmps26; go_wp2; go_ret; exact ⟨rfl, rfl⟩
  by_cases h5 : st = 5
  · subst h5; go_enter Try.func26, Try.ntmps26; go_wp2; go_ret; exact ⟨rfl, rfl⟩
  by_cases h6 : st = 6
  · subst h6; go_enter Try.func26, Try.ntmps26; go_wp2; go_ret; exact ⟨rfl, rfl⟩
  by_cases h9 : st = 9
  · subst h9; go_enter Try.func26, Try.ntmps26; go_wp2; go_ret; exact ⟨rfl, rfl⟩
  have HE : Hid (false = accN st) := by unfold Hid accN; simp [h1, h2, h4, h5, h6, h9]
  have b1 : ((st : Int) == 1) = false := by simp; omega
  have b2 : ((st : Int) == 2) = false := by simp; omega
  have b4 : ((st : Int) == 4) = false := by simp; omega
  have b5 : ((st : Int) == 5) = false := by simp; omega
  have b6 : ((st : Int) == 6) = false := by simp; omega
  have b9 : ((st : Int) == 9) = false := by simp; omega
  clear h1 h2 h4 h5 h6 h9
  go_enter Try.func26, Try.ntmps26
  go_wp2
  go_ret
  exact ⟨ret_bool HE.out, rfl⟩

set_option maxHeartbeats 400000 in
theorem nlStep1 (c : Nat) (w : World) :
    Calls Try.prog 25 #[.int .i64 1, .int .u8 (c : Int)] w fun e w' => e = .returned (.int .i64 ((stepN 1 c : Nat) : Int)) ∧ w' = w := by
  by_cases h48 : c = 48
  · have HE : Hid (((2 : Nat) : Int) = ((stepN 1 c : Nat) : Int)) := by unfold Hid stepN; first | (simp [isE, isS, h48]; done) | (simp [isE, isS, h48]; decide)
    have b48 : ((c : Int) == 48) = true := by simp; omega
    clear h48
    go_enter Try.func25, Try.ntmps25
    go_wp2_with (first | (go_at_call 39; refine (nlDigit_any c _).mono ?_; rintro e w' ⟨rfl, rfl⟩) | (go_at_call 40; refine (nlHex_any c _).mono ?_; rintro e w' ⟨rfl, rfl⟩))
    go_ret
    exact ⟨ret_int HE.out, rfl⟩
  rcases Bool.eq_false_or_eq_true (isD c) with hD | hD
  · have HE : Hid (((5 : Nat) : Int) = ((stepN 1 c : Nat) : Int)) := by unfold Hid stepN; first | (simp [isE, isS, h48, hD]; done) | (simp [isE, isS, h48, hD]; decide)
    have b48 : ((c : Int) == 48) = false := by simp; omega
    clear h48
    go_enter Try.func25, Try.ntmps25
    go_wp2_with (first | (go_at_call 39; refine (nlDigit_any c _).mono ?_; rintro e w' ⟨rfl, rfl⟩) | (go_at_call 40; refine (nlHex_any c _).mono ?_; rintro e w' ⟨rfl, rfl⟩))
    go_ret
    exact ⟨ret_int HE.out, rfl⟩
  by_cases h46 : c = 46
  · have HE : Hid (((6 : Nat) : Int) = ((stepN 1 c : Nat) : Int)) := by unfold Hid stepN; first | (simp [isE, isS, h48, hD, h46]; done) | (simp [isE, isS, h48, hD, h46]; decide)
    have b48 : ((c : Int) == 48) = false := by simp; omega
    clear h48
    have b46 : ((c : Int) == 46) = true := by simp; omega
    clear h46
    go_enter Try.func25, Try.ntmps25
    go_wp2_with (first | (go_at_call 39; refine (nlDigit_any c _).mono ?_; rintro e w' ⟨rfl, rfl⟩) | (go_at_call 40; refine (nlHex_any c _).mono ?_; rintro e w' ⟨rfl, rfl⟩))
    go_ret
    exact ⟨ret_int HE.out, rfl⟩
  by_cases h101 : c = 101
  · have HE : Hid (((7 : Nat) : Int) = ((stepN 1 c : Nat) : Int)) := by unfold Hid stepN; first | (simp [isE, isS, h48, hD, h46, h101]; done) | (simp [isE, isS, h48, hD, h46, h101]; decide)
    have b48 : ((c : Int) == 48) = false := by simp; omega
    clear h48
    have b46 : ((c : Int) == 46) = false := by simp; omega
    clear h46
    have b101 : ((c : Int) == 101) = true := by simp; omega
    clear h101
    go_enter Try.func25, Try.ntmps25
    go_wp2_with (first | (go_at_call 39; refine (nlDigit_any c _).mono ?_; rintro e w' ⟨rfl, rfl⟩) | (go_at_call 40; refine (nlHex_any c _).mono ?_; rintro e w' ⟨rfl, rfl⟩))
    go_ret
    exact ⟨ret_int HE.out, rfl⟩
  by_cases h69 : c = 69
  · have HE : Hid (((7 : Nat) : Int) = ((stepN 1 c : Nat) : Int)) := by unfold Hid stepN; first | (simp [isE, isS, h48, hD, h46, h101, h69]; done) | (simp [isE, isS, h48, hD, h46, h101, h69]; decide)
    have b48 : ((c : Int) == 48) = false := by simp; omega
    clear h48
    have b46 : ((c : Int) == 46) = false := by simp; omega
    clear h46
    have b101 : ((c : Int) == 101) = false := by simp; omega
    clear h101
    have b69 : ((c : Int) == 69) = true := by simp; omega
    clear h69
    go_enter Try.func25, Try.ntmps25
    go_wp2_with (first | (go_at_call 39; refine (nlDigit_any c _).mono ?_; rintro e w' ⟨rfl, rfl⟩) | (go_at_call 40; refine (nlHex_any c _).mono ?_; rintro e w' ⟨rfl, rfl⟩))
    go_ret
    exact ⟨ret_int HE.out, rfl⟩
  have HE : Hid (((0 : Nat) : Int) = ((stepN 1 c : Nat) : Int)) := by unfold Hid stepN; first | (simp [isE, isS, h48, hD, h46, h101, h69]; done) | (simp [isE, isS, h48, hD, h46, h101, h69]; decide)
  have b48 : ((c : Int) == 48) = false := by simp; omega
  clear h48
  have b46 : ((c : Int) == 46) = false := by simp; omega
  clear h46
  have b101 : ((c : Int) == 101) = false := by simp; omega
  clear h101
  have b69 : ((c : Int) == 69) = false := by simp; omega
  clear h69
  go_enter Try.func25, Try.ntmps25
  go_wp2_with (first | (go_at_call 39; refine (nlDigit_any c _).mono ?_; rintro e w' ⟨rfl, rfl⟩) | (go_at_call 40; refine (nlHex_any c _).mono ?_; rintro e w' ⟨rfl, rfl⟩))
  go_ret
  exact ⟨ret_int HE.out, rfl⟩

set_option maxHeartbeats 400000 in
theorem nlStep2 (c : Nat) (w : World) :
    Calls Try.prog 25 #[.int .i64 2, .int .u8 (c : Int)] w fun e w' => e = .returned (.int .i64 ((stepN 2 c : Nat) : Int)) ∧ w' = w := by
  by_cases h120 : c = 120
  · have HE : Hid (((3 : Nat) : Int) = ((stepN 2 c : Nat) : Int)) := by unfold Hid stepN; first | (simp [isE, isS, h120]; done) | (simp [isE, isS, h120]; decide)
    have b120 : ((c : Int) == 120) = true := by simp; omega
    clear h120
    go_enter Try.func25, Try.ntmps25
    go_wp2_with (first | (go_at_call 39; refine (nlDigit_any c _).mono ?_; rintro e w' ⟨rfl, rfl⟩) | (go_at_call 40; refine (nlHex_any c _).mono ?_; rintro e w' ⟨rfl, rfl⟩))
    go_ret
    exact ⟨ret_int HE.out, rfl⟩
  by_cases h98 : c = 98
  · have HE : Hid (((3 : Nat) : Int) = ((stepN 2 c : Nat) : Int)) := by unfold Hid stepN; first | (simp [isE, isS, h120, h98]; done) | (simp [isE, isS, h120, h98]; decide)
    have b120 : ((c : Int) == 120) = false := by simp; omega
    clear h120
    have b98 : ((c : Int) == 98) = true := by simp; omega
    clear h98
    go_enter Try.func25, Try.ntmps25
    go_wp2_with (first | (go_at_call 39; refine (nlDigit_any c _).mono ?_; rintro e w' ⟨rfl, rfl⟩) | (go_at_call 40; refine (nlHex_any c _).mono ?_; rintro e w' ⟨rfl, rfl⟩))
    go_ret
    exact ⟨ret_int HE.out, rfl⟩
  rcases Bool.eq_false_or_eq_true (isD c) with hD | hD
  · have HE : Hid (((5 : Nat) : Int) = ((stepN 2 c : Nat) : Int)) := by unfold Hid stepN; first | (simp [isE, isS, h120, h98, hD]; done) | (simp [isE, isS, h120, h98, hD]; decide)
    have b120 : ((c : Int) == 120) = false := by simp; omega
    clear h120
    have b98 : ((c : Int) == 98) = false := by simp; omega
    clear h98
    go_enter Try.func25, Try.ntmps25
    go_wp2_with (first | (go_at_call 39; refine (nlDigit_any c _).mono ?_; rintro e w' ⟨rfl, rfl⟩) | (go_at_call 40; refine (nlHex_any c _).mono ?_; rintro e w' ⟨rfl, rfl⟩))
    go_ret
    exact ⟨ret_int HE.out, rfl⟩
  by_cases h46 : c = 46
  · have HE : Hid (((6 : Nat) : Int) = ((stepN 2 c : Nat) : Int)) := by unfold Hid stepN; first | (simp [isE, isS, h120, h98, hD, h46]; done) | (simp [isE, isS, h120, h98, hD, h46]; decide)
    have b120 : ((c : Int) == 120) = false := by simp; omega
    clear h120
    have b98 : ((c : Int) == 98) = false := by simp; omega
    clear h98
    have b46 : ((c : Int) == 46) = true := by simp; omega
    clear h46
    go_enter Try.func25, Try.ntmps25
    go_wp2_with (first | (go_at_call 39; refine (nlDigit_any c _).mono ?_; rintro e w' ⟨rfl, rfl⟩) | (go_at_call 40; refine (nlHex_any c _).mono ?_; rintro e w' ⟨rfl, rfl⟩))
    go_ret
    exact ⟨ret_int HE.out, rfl⟩
  by_cases h101 : c = 101
  · have HE : Hid (((7 : Nat) : Int) = ((stepN 2 c : Nat) : Int)) := by unfold Hid stepN; first | (simp [isE, isS, h120, h98, hD, h46, h101]; done) | (simp [isE, isS, h120, h98, hD, h46, h101]; decide)
    have b120 : ((c : Int) == 120) = false := by simp; omega
    clear h120
    have b98 : ((c : Int) == 98) = false := by simp; omega
    clear h98
    have b46 : ((c : Int) == 46) = false := by simp; omega
    clear h46
    have b101 : ((c : Int) == 101) = true := by simp; omega
    clear h101
    go_enter Try.func25, Try.ntmps25
    go_wp2_with (first | (go_at_call 39; refine (nlDigit_any c _).mono ?_; rintro e w' ⟨rfl, rfl⟩) | (go_at_call 40; refine (nlHex_any c _).mono ?_; rintro e w' ⟨rfl, rfl⟩))
    go_ret
    exact ⟨ret_int HE.out, rfl⟩
  by_cases h69 : c = 69
  · have HE : Hid (((7 : Nat) : Int) = ((stepN 2 c : Nat) : Int)) := by unfold Hid stepN; first | (simp [isE, isS, h120, h98, hD, h46, h101, h69]; done) | (simp [isE, isS, h120, h98, hD, h46, h101, h69]; decide)
    have b120 : ((c : Int) == 120) = false := by simp; omega
    clear h120
    have b98 : ((c : Int) == 98) = false := by simp; omega
    clear h98
    have b46 : ((c : Int) == 46) = false := by simp; omega
    clear h46
    have b101 : ((c : Int) == 101) = false := by simp; omega
    clear h101
    have b69 : ((c : Int) == 69) = true := by simp; omega
    clear h69
    go_enter Try.func25, Try.ntmps25
    go_wp2_with (first | (go_at_call 39; refine (nlDigit_any c _).mono ?_; rintro e w' ⟨rfl, rfl⟩) | (go_at_call 40; refine (nlHex_any c _).mono ?_; rintro e w' ⟨rfl, rfl⟩))
    go_ret
    exact ⟨ret_int HE.out, rfl⟩
  have HE : Hid (((0 : Nat) : Int) = ((stepN 2 c : Nat) : Int)) := by unfold Hid stepN; first | (simp [isE, isS, h120, h98, hD, h46, h101, h69]; done) | (simp [isE, isS, h120, h98, hD, h46, h101, h69]; decide)
  have b120 : ((c : Int) == 120) = false := by simp; omega
  clear h120
  have b98 : ((c : Int) == 98) = false := by simp; omega
  clear h98
  have b46 : ((c : Int) == 46) = false := by simp; omega
  clear h46
  have b101 : ((c : Int) == 101) = false := by simp; omega
  clear h101
  have b69 : ((c : Int) == 69) = false := by simp; omega
  clear h69
  go_enter Try.func25, Try.ntmps25
  go_wp2_with (first | (go_at_call 39; refine (nlDigit_any c _).mono ?_; rintro e w' ⟨rfl, rfl⟩) | (go_at_call 40; refine (nlHex_any c _).mono ?_; rintro e w' ⟨rfl, rfl⟩))
  go_ret
  exact ⟨ret_int HE.out, rfl⟩

set_option maxHeartbeats 400000 in
theorem nlStep3 (c : Nat) (w : World) :
    Calls Try.prog 25 #[.int .i64 3, .int .u8 (c : Int)] w fun e w' => e = .returned (.int .i64 ((stepN 3 c : Nat) : Int)) ∧ w' = w := by
  rcases Bool.eq_false_or_eq_true (isH c) with hH | hH
  · have HE : Hid (((4 : Nat) : Int) = ((stepN 3 c : Nat) : Int)) := by unfold Hid stepN; first | (simp [isE, isS, hH]; done) | (simp [isE, isS, hH]; decide)
    go_enter Try.func25, Try.ntmps25
    go_wp2_with (first | (go_at_call 39; refine (nlDigit_any c _).mono ?_; rintro e w' ⟨rfl, rfl⟩) | (go_at_call 40; refine (nlHex_any c _).mono ?_; rintro e w' ⟨rfl, rfl⟩))
    go_ret
    exact ⟨ret_int HE.out, rfl⟩
  have HE : Hid (((0 : Nat) : Int) = ((stepN 3 c : Nat) : Int)) := by unfold Hid stepN; first | (simp [isE, isS, hH]; done) | (simp [isE, isS, hH]; decide)
  go_enter Try.func25, Try.ntmps25
  go_wp2_with (first | (go_at_call 39; refine (nlDigit_any c _).mono ?_; rintro e w' ⟨rfl, rfl⟩) | (go_at_call 40; refine (nlHex_any c _).mono ?_; rintro e w' ⟨rfl, rfl⟩))
  go_ret
  exact ⟨ret_int HE.out, rfl⟩

set_option maxHeartbeats 400000 in
theorem nlStep4 (c : Nat) (w : World) :
    Calls Try.prog 25 #[.int .i64 4, .int .u8 (c : Int)] w fun e w' => e = .returned (.int .i64 ((stepN 4 c : Nat) : Int)) ∧ w' = w := by
  rcases Bool.eq_false_or_eq_true (isH c) with hH | hH
  · have HE : Hid (((4 : Nat) : Int) = ((stepN 4 c : Nat) : Int)) := by unfold Hid stepN; first | (simp [isE, isS, hH]; done) | (simp [isE, isS, hH]; decide)
    go_enter Try.func25, Try.ntmps25
    go_wp2_with (first | (go_at_call 39; refine (nlDigit_any c _).mono ?_; rintro e w' ⟨rfl, rfl⟩) | (go_at_call 40; refine (nlHex_any c _).mono ?_; rintro e w' ⟨rfl, rfl⟩))
    go_ret
    exact ⟨ret_int HE.out, rfl⟩
  have HE : Hid (((0 : Nat) : Int) = ((stepN 4 c : Nat) : Int)) := by unfold Hid stepN; first | (simp [isE, isS, hH]; done) | (simp [isE, isS, hH]; decide)
  go_enter Try.func25, Try.ntmps25
  go_wp2_with (first | (go_at_call 39; refine (nlDigit_any c _).mono ?_; rintro e w' ⟨rfl, rfl⟩) | (go_at_call 40; refine (nlHex_any c _).mono ?_; rintro e w' ⟨rfl, rfl⟩))
  go_ret
  exact ⟨ret_int HE.out, rfl⟩

set_option maxHeartbeats 400000 in
theorem nlStep5 (c : Nat) (w : World) :
    Calls Try.prog 25 #[.int .i64 5, .int .u8 (c : Int)] w fun e w' => e = .returned (.int .i64 ((stepN 5 c : Nat) : Int)) ∧ w' = w := by
  rcases Bool.eq_false_or_eq_true (isD c) with hD | hD
  · have HE : Hid (((5 : Nat) : Int) = ((stepN 5 c : Nat) : Int)) := by unfold Hid stepN; first | (simp [isE, isS, hD]; done) | (simp [isE, isS, hD]; decide)
    go_enter Try.func25, Try.ntmps25
    go_wp2_with (first | (go_at_call 39; refine (nlDigit_any c _).mono ?_; rintro e w' ⟨rfl, rfl⟩) | (go_at_call 40; refine (nlHex_any c _).mono ?_; rintro e w' ⟨rfl, rfl⟩))
    go_ret
    exact ⟨ret_int HE.out, rfl⟩
  by_cases h46 : c = 46
  · have HE : Hid (((6 : Nat) : Int) = ((stepN 5 c : Nat) : Int)) := by unfold Hid stepN; first | (simp [isE, isS, hD, h46]; done) | (simp [isE, isS, hD, h46]; decide)
    have b46 : ((c : Int) == 46) = true := by simp; omega
    clear h46
    go_enter Try.func25, Try.ntmps25
    go_wp2_with (first | (go_at_call 39; refine (nlDigit_any c _).mono ?_; rintro e w' ⟨rfl, rfl⟩) | (go_at_call 40; refine (nlHex_any c _).mono ?_; rintro e w' ⟨rfl, rfl⟩))
    go_ret
    exact ⟨ret_int HE.out, rfl⟩
  by_cases h101 : c = 101
  · have HE : Hid (((7 : Nat) : Int) = ((stepN 5 c : Nat) : Int)) := by unfold Hid stepN; first | (simp [isE, isS, hD, h46, h101]; done) | (simp [isE, isS, hD, h46, h101]; decide)
    have b46 : ((c : Int) == 46) = false := by simp; omega
    clear h46
    have b101 : ((c : Int) == 101) = true := by simp; omega
    clear h101
    go_enter Try.func25, Try.ntmps25
    go_wp2_with (first | (go_at_call 39; refine (nlDigit_any c _).mono ?_; rintro e w' ⟨rfl, rfl⟩) | (go_at_call 40; refine (nlHex_any c _).mono ?_; rintro e w' ⟨rfl, rfl⟩))
    go_ret
    exact ⟨ret_int HE.out, rfl⟩
  by_cases h69 : c = 69
  · have HE : Hid (((7 : Nat) : Int) = ((stepN 5 c : Nat) : Int)) := by unfold Hid stepN; first | (simp [isE, isS, hD, h46, h101, h69]; done) | (simp [isE, isS, hD, h46, h101, h69]; decide)
    have b46 : ((c : Int) == 46) = false := by simp; omega
    clear h46
    have b101 : ((c : Int) == 101) = false := by simp; omega
    clear h101
    have b69 : ((c : Int) == 69) = true := by simp; omega
    clear h69
    go_enter Try.func25, Try.ntmps25
    go_wp2_with (first | (go_at_call 39; refine (nlDigit_any c _).mono ?_; rintro e w' ⟨rfl, rfl⟩) | (go_at_call 40; refine (nlHex_any c _).mono ?_; rintro e w' ⟨rfl, rfl⟩))
    go_ret
    exact ⟨ret_int HE.out, rfl⟩
  have HE : Hid (((0 : Nat) : Int) = ((stepN 5 c : Nat) : Int)) := by unfold Hid stepN; first | (simp [isE, isS, hD, h46, h101, h69]; done) | (simp [isE, isS, hD, h46, h101, h69]; decide)
  have b46 : ((c : Int) == 46) = false := by simp; omega
  clear h46
  have b101 : ((c : Int) == 101) = false := by simp; omega
  clear h101
  have b69 : ((c : Int) == 69) = false := by simp; omega
  clear h69
  go_enter Try.func25, Try.ntmps25
  go_wp2_with (first | (go_at_call 39; refine (nlDigit_any c _).mono ?_; rintro e w' ⟨rfl, rfl⟩) | (go_at_call 40; refine (nlHex_any c _).mono ?_; rintro e w' ⟨rfl, rfl⟩))
  go_ret
  exact ⟨ret_int HE.out, rfl⟩

set_option maxHeartbeats 400000 in
theorem nlStep6 (c : Nat) (w : World) :
    Calls Try.prog 25 #[.int .i64 6, .int .u8 (c : Int)] w fun e w' => e = .returned (.int .i64 ((stepN 6 c : Nat) : Int)) ∧ w' = w := by
  rcases Bool.eq_false_or_eq_true (isD c) with hD | hD
  · have HE : Hid (((6 : Nat) : Int) = ((stepN 6 c : Nat) : Int)) := by unfold Hid stepN; first | (simp [isE, isS, hD]; done) | (simp [isE, isS, hD]; decide)
    go_enter Try.func25, Try.ntmps25
    go_wp2_with (first | (go_at_call 39; refine (nlDigit_any c _).mono ?_; rintro e w' ⟨rfl, rfl⟩) | (go_at_call 40; refine (nlHex_any c _).mono ?_; rintro e w' ⟨rfl, rfl⟩))
    go_ret
    exact ⟨ret_int HE.out, rfl⟩
  by_cases h101 : c = 101
  · have HE : Hid (((7 : Nat) : Int) = ((stepN 6 c : Nat) : Int)) := by unfold Hid stepN; first | (simp [isE, isS, hD, h101]; done) | (simp [isE, isS, hD, h101]; decide)
    have b101 : ((c : Int) == 101) = true := by simp; omega
    clear h101
    go_enter Try.func25, Try.ntmps25
    go_wp2_with (first | (go_at_call 39; refine (nlDigit_any c _).mono ?_; rintro e w' ⟨rfl, rfl⟩) | (go_at_call 40; refine (nlHex_any c _).mono ?_; rintro e w' ⟨rfl, rfl⟩))
    go_ret
    exact ⟨ret_int HE.out, rfl⟩
  by_cases h69 : c = 69
  · have HE : Hid (((7 : Nat) : Int) = ((stepN 6 c : Nat) : Int)) := by unfold Hid stepN; first | (simp [isE, isS, hD, h101, h69]; done) | (simp [isE, isS, hD, h101, h69]; decide)
    have b101 : ((c : Int) == 101) = false := by simp; omega
    clear h101
    have b69 : ((c : Int) == 69) = true := by simp; omega
    clear h69
    go_enter Try.func25, Try.ntmps25
    go_wp2_with (first | (go_at_call 39; refine (nlDigit_any c _).mono ?_; rintro e w' ⟨rfl, rfl⟩) | (go_at_call 40; refine (nlHex_any c _).mono ?_; rintro e w' ⟨rfl, rfl⟩))
    go_ret
    exact ⟨ret_int HE.out, rfl⟩
  have HE : Hid (((0 : Nat) : Int) = ((stepN 6 c : Nat) : Int)) := by unfold Hid stepN; first | (simp [isE, isS, hD, h101, h69]; done) | (simp [isE, isS, hD, h101, h69]; decide)
  have b101 : ((c : Int) == 101) = false := by simp; omega
  clear h101
  have b69 : ((c : Int) == 69) = false := by simp; omega
  clear h69
  go_enter Try.func25, Try.ntmps25
  go_wp2_with (first | (go_at_call 39; refine (nlDigit_any c _).mono ?_; rintro e w' ⟨rfl, rfl⟩) | (go_at_call 40; refine (nlHex_any c _).mono ?_; rintro e w' ⟨rfl, rfl⟩))
  go_ret
  exact ⟨ret_int HE.out, rfl⟩

set_option maxHeartbeats 400000 in
theorem nlStep7 (c : Nat) (w : World) :
    Calls Try.prog 25 #[.int .i64 7, .int .u8 (c : Int)] w fun e w' => e = .returned (.int .i64 ((stepN 7 c : Nat) : Int)) ∧ w' = w := by
  by_cases h43 : c = 43
  · have HE : Hid (((8 : Nat) : Int) = ((stepN 7 c : Nat) : Int)) := by unfold Hid stepN; first | (simp [isE, isS, h43]; done) | (simp [isE, isS, h43]; decide)
    have b43 : ((c : Int) == 43) = true := by simp; omega
    clear h43
    go_enter Try.func25, Try.ntmps25
    go_wp2_with (first | (go_at_call 39; refine (nlDigit_any c _).mono ?_; rintro e w' ⟨rfl, rfl⟩) | (go_at_call 40; refine (nlHex_any c _).mono ?_; rintro e w' ⟨rfl, rfl⟩))
    go_ret
    exact ⟨ret_int HE.out, rfl⟩
  by_cases h45 : c = 45
  · have HE : Hid (((8 : Nat) : Int) = ((stepN 7 c : Nat) : Int)) := by unfold Hid stepN; first | (simp [isE, isS, h43, h45]; done) | (simp [isE, isS, h43, h45]; decide)
    have b43 : ((c : Int) == 43) = false := by simp; omega
    clear h43
    have b45 : ((c : Int) == 45) = true := by simp; omega
    clear h45
    go_enter Try.func25, Try.ntmps25
    go_wp2_with (first | (go_at_call 39; refine (nlDigit_any c _).mono ?_; rintro e w' ⟨rfl, rfl⟩) | (go_at_call 40; refine (nlHex_any c _).mono ?_; rintro e w' ⟨rfl, rfl⟩))
    go_ret
    exact ⟨ret_int HE.out, rfl⟩
  rcases Bool.eq_false_or_eq_true (isD c) with hD | hD
  · have HE : Hid (((9 : Nat) : Int) = ((stepN 7 c : Nat) : Int)) := by unfold Hid stepN; first | (simp [isE, isS, h43, h45, hD]; done) | (simp [isE, isS, h43, h45, hD]; decide)
    have b43 : ((c : Int) == 43) = false := by simp; omega
    clear h43
    have b45 : ((c : Int) == 45) = false := by simp; omega
    clear h45
    go_enter Try.func25, Try.ntmps25
    go_wp2_with (first | (go_at_call 39; refine (nlDigit_any c _).mono ?_; rintro e w' ⟨rfl, rfl⟩) | (go_at_call 40; refine (nlHex_any c _).mono ?_; rintro e w' ⟨rfl, rfl⟩))
    go_ret
    exact ⟨ret_int HE.out, rfl⟩
  have HE : Hid (((0 : Nat) : Int) = ((stepN 7 c : Nat) : Int)) := by unfold Hid stepN; first | (simp [isE, isS, h43, h45, hD]; done) | (simp [isE, isS, h43, h45, hD]; decide)
  have b43 : ((c : Int) == 43) = false := by simp; omega
  clear h43
  have b45 : ((c : Int) == 45) = false := by simp; omega
  clear h45
  go_enter Try.func25, Try.ntmps25
  go_wp2_with (first | (go_at_call 39; refine (nlDigit_any c _).mono ?_; rintro e w' ⟨rfl, rfl⟩) | (go_at_call 40; refine (nlHex_any c _).mono ?_; rintro e w' ⟨rfl, rfl⟩))
  go_ret
  exact ⟨ret_int HE.out, rfl⟩

set_option maxHeartbeats 400000 in
theorem nlStep8 (c : Nat) (w : World) :
    Calls Try.prog 25 #[.int .i64 8, .int .u8 (c : Int)] w fun e w' => e = .returned (.int .i64 ((stepN 8 c : Nat) : Int)) ∧ w' = w := by
  rcases Bool.eq_false_or_eq_true (isD c) with hD | hD
  · have HE : Hid (((9 : Nat) : Int) = ((stepN 8 c : Nat) : Int)) := by unfold Hid stepN; first | (simp [isE, isS, hD]; done) | (simp [isE, isS, hD]; decide)
    go_enter Try.func25, Try.ntmps25
    go_wp2_with (first | (go_at_call 39; refine (nlDigit_any c _).mono ?_; rintro e w' ⟨rfl, rfl⟩) | (go_at_call 40; refine (nlHex_any c _).mono ?_; rintro e w' ⟨rfl, rfl⟩))
    go_ret
    exact ⟨ret_int HE.out, rfl⟩
  have HE : Hid (((0 : Nat) : Int) = ((stepN 8 c : Nat) : Int)) := by unfold Hid stepN; first | (simp [isE, isS, hD]; done) | (simp [isE, isS, hD]; decide)
  go_enter Try.func25, Try.ntmps25
  go_wp2_with (first | (go_at_call 39; refine (nlDigit_any c _).mono ?_; rintro e w' ⟨rfl, rfl⟩) | (go_at_call 40; refine (nlHex_any c _).mono ?_; rintro e w' ⟨rfl, rfl⟩))
  go_ret
  exact ⟨ret_int HE.out, rfl⟩

set_option maxHeartbeats 400000 in
theorem nlStep9 (c : Nat) (w : World) :
    Calls Try.prog 25 #[.int .i64 9, .int .u8 (c : Int)] w fun e w' => e = .returned (.int .i64 ((stepN 9 c : Nat) : Int)) ∧ w' = w := by
  rcases Bool.eq_false_or_eq_true (isD c) with hD | hD
  · have HE : Hid (((9 : Nat) : Int) = ((stepN 9 c : Nat) : Int)) := by unfold Hid stepN; first | (simp [isE, isS, hD]; done) | (simp [isE, isS, hD]; decide)
    go_enter Try.func25, Try.ntmps25
    go_wp2_with (first | (go_at_call 39; refine (nlDigit_any c _).mono ?_; rintro e w' ⟨rfl, rfl⟩) | (go_at_call 40; refine (nlHex_any c _).mono ?_; rintro e w' ⟨rfl, rfl⟩))
    go_ret
    exact ⟨ret_int HE.out, rfl⟩
  have HE : Hid (((0 : Nat) : Int) = ((stepN 9 c : Nat) : Int)) := by unfold Hid stepN; first | (simp [isE, isS, hD]; done) | (simp [isE, isS, hD]; decide)
  go_enter Try.func25, Try.ntmps25
  go_wp2_with (first | (go_at_call 39; refine (nlDigit_any c _).mono ?_; rintro e w' ⟨rfl, rfl⟩) | (go_at_call 40; refine (nlHex_any c _).mono ?_; rintro e w' ⟨rfl, rfl⟩))
  go_ret
  exact ⟨ret_int HE.out, rfl⟩

theorem nlStep_any (st c : Nat) (h1 : 1 ≤ st) (h9 : st ≤ 9) (w : World) :
    Calls Try.prog 25 #[.int .i64 (st : Int), .int .u8 (c : Int)] w fun e w' => e = .returned (.int .i64 ((stepN st c : Nat) : Int)) ∧ w' = w := by
  match st, h1, h9 with
  | 1, _, _ => exact nlStep1 c w
  | 2, _, _ => exact nlStep2 c w
  | 3, _, _ => exact nlStep3 c w
  | 4, _, _ => exact nlStep4 c w
  | 5, _, _ => exact nlStep5 c w
  | 6, _, _ => exact nlStep6 c w
  | 7, _, _ => exact nlStep7 c w
  | 8, _, _ => exact nlStep8 c w
  | 9, _, _ => exact nlStep9 c w
  | n + 10, _, h => omega
theorem stepN_le (st c : Nat) : stepN st c ≤ 9 := by
  unfold stepN
  repeat' split
  all_goals omega
end Go.Proofs.Qxb6603997a
