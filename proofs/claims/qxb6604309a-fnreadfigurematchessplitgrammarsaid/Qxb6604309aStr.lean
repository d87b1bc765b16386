import Derived.Test.Qxb6604309aLeaf
namespace Go.Proofs.Qxb6604309a
open Go.RowKit

theorem take_byte (s : ByteArray) (k : Nat) (h : k < s.size) : s.data.toList.take (k + 1) = s.data.toList.take k ++ [s[k]] := by
  rw [List.take_succ_eq_append_getElem (by rw [size_list]; exact h)]; rfl
theorem drop_byte (s : ByteArray) (k : Nat) (h : k < s.size) : s.data.toList.drop k = s[k] :: s.data.toList.drop (k + 1) := by
  rw [List.drop_eq_getElem_cons (by rw [size_list]; exact h)]; rfl

/-! ### zzAllDigits -/
theorem allB_bad (s : ByteArray) (k : Nat) (h : k < s.size) (hb : ¬ (48 ≤ s[k].toNat ∧ s[k].toNat ≤ 57)) : allB s.data.toList = false := by
  cases e : allB s.data.toList
  · rfl
  · have := (allB_iff _).1 e s[k] (List.getElem_mem (l := s.data.toList) (n := k) (by rw [size_list]; exact h))
    exact absurd this hb

set_option maxHeartbeats 400000 in
theorem allDigits_any (s : ByteArray) (w : World) (hs : s.size ≤ 4194304) :
    Calls Try.prog 13 #[.string s] w fun e w' => e = .returned (.bool (allB s.data.toList)) ∧ w' = w := by
  obtain ⟨res, hres⟩ : ∃ res, res = allB s.data.toList := ⟨_, rfl⟩
  have HRES : Hid (res = allB s.data.toList) := hres
  rw [← hres]
  clear hres
  go_enter Try.func13, Try.ntmps13
  go_wp2_with fail
  go_loop [3] (fun v => ∃ k : Nat, k ≤ s.size ∧ v = .int .i64 k ∧ Hid (allB (s.data.toList.take k) = true)) (fun v => s.size - (intOf v).toNat)
  case atStart => exact ⟨0, Nat.zero_le _, rfl, rfl⟩
  case round =>
    obtain ⟨k, hk, rfl, HK⟩ := hrel
    by_cases hlt : k < s.size
    · by_cases h1 : s[k].toNat < 48
      · have HF : Hid (res = false) := by unfold Hid; rw [HRES.out]; exact allB_bad s k hlt (by omega)
        go_wp2
        go_ret
        exact ⟨by rw [HF.out]; rfl, rfl⟩
      · have hd1 : decide (s[k].toNat < 48) = false := decide_eq_false h1
        by_cases h2 : 57 < s[k].toNat
        · have HF : Hid (res = false) := by unfold Hid; rw [HRES.out]; exact allB_bad s k hlt (by omega)
          go_wp2
          go_ret
          exact ⟨by rw [HF.out]; rfl, rfl⟩
        · have HN : Hid (allB (s.data.toList.take (k + 1)) = true) := by
            unfold Hid
            rw [take_byte s k hlt]
            have := HK.out
            unfold allB at this ⊢
            rw [List.all_append, this]
            simp; omega
          go_wp2
          go_round
          case rel => exact ⟨k + 1, by omega, by go_num, HN.out⟩
          case measure => simp [intOf]; omega
    · have HF : Hid (res = true) := by
        unfold Hid
        have := HK.out
        rw [List.take_of_length_le (by rw [size_list]; omega)] at this
        rw [HRES.out, this]
      go_wp2
      go_ret
      exact ⟨by rw [HF.out]; rfl, rfl⟩

/-! ### zzFirstNonZero -/
theorem lead0_at (s : ByteArray) (k : Nat) (h : k < s.size) : lead0 (s.data.toList.drop k) = if s[k].toNat = 48 then lead0 (s.data.toList.drop (k + 1)) + 1 else 0 := by rw [drop_byte s k h]; rfl
theorem lead0_end (s : ByteArray) (k : Nat) (h : s.size ≤ k) : lead0 (s.data.toList.drop k) = 0 := by rw [List.drop_of_length_le (by rw [size_list]; exact h)]; rfl

set_option maxHeartbeats 1000000 in
theorem firstNonZero_any (a b : ByteArray) (w : World) (hs : a.size + b.size ≤ 4194304) :
    Calls Try.prog 15 #[.string a, .string b] w fun e w' => e = .returned (.int .i64 ((lead0 (a.data.toList ++ b.data.toList) : Nat) : Int)) ∧ w' = w := by
  obtain ⟨res, hres⟩ : ∃ res, res = lead0 (a.data.toList ++ b.data.toList) := ⟨_, rfl⟩
  have HRES : Hid (res = lead0 (a.data.toList ++ b.data.toList)) := hres
  rw [← hres]
  clear hres
  go_enter Try.func15, Try.ntmps15
  go_wp2_with fail
  go_loop [5] (fun v => ∃ k : Nat, k ≤ a.size ∧ v = .int .i64 k ∧ Hid (k + lead0 (a.data.toList.drop k) = lead0 a.data.toList)) (fun v => a.size - (intOf v).toNat)
  case atStart => exact ⟨0, Nat.zero_le _, rfl, by unfold Hid; simp⟩
  case round =>
    obtain ⟨k, hk, rfl, HK⟩ := hrel
    by_cases hlt : k < a.size
    · by_cases h1 : a[k].toNat = 48
      · have b1 : ((a[k].toNat : Int) != 48) = false := by simp [h1]
        have HN : Hid (k + 1 + lead0 (a.data.toList.drop (k + 1)) = lead0 a.data.toList) := by
          have h2 := HK.out
          rw [lead0_at a k hlt, if_pos h1] at h2
          unfold Hid; omega
        clear h1
        go_wp2
        go_round
        case rel => exact ⟨k + 1, by omega, by go_num, HN.out⟩
        case measure => simp [intOf]; omega
      · have b1 : ((a[k].toNat : Int) != 48) = true := by simp; omega
        have HN : Hid (res = k) := by
          have h2 := HK.out
          rw [lead0_at a k hlt, if_neg h1] at h2
          unfold Hid
          rw [HRES.out, lead0_part _ _ (by rw [size_list]; omega)]; omega
        clear h1
        go_wp2
        go_ret
        exact ⟨ret_int (by rw [HN.out]), rfl⟩
    · have HF : Hid (res = a.size + lead0 b.data.toList) := by
        have h2 := HK.out
        rw [lead0_end a k (by omega)] at h2
        unfold Hid
        rw [HRES.out, lead0_full _ _ (by rw [size_list]; omega), size_list]
      clear HK
      go_wp2_with fail
      go_loop [6] (fun v => ∃ k : Nat, k ≤ b.size ∧ v = .int .i64 k ∧ Hid (k + lead0 (b.data.toList.drop k) = lead0 b.data.toList)) (fun v => b.size - (intOf v).toNat)
      case atStart => exact ⟨0, Nat.zero_le _, rfl, by unfold Hid; simp⟩
      case round =>
        obtain ⟨j, hj, rfl, HJ⟩ := hrel
        by_cases hltj : j < b.size
        · by_cases h1 : b[j].toNat = 48
          · have b1 : ((b[j].toNat : Int) != 48) = false := by simp [h1]
            have HN : Hid (j + 1 + lead0 (b.data.toList.drop (j + 1)) = lead0 b.data.toList) := by
              have h2 := HJ.out
              rw [lead0_at b j hltj, if_pos h1] at h2
              unfold Hid; omega
            clear h1
            go_wp2
            go_round
            case rel => exact ⟨j + 1, by omega, by go_num, HN.out⟩
            case measure => simp [intOf]; omega
          · have b1 : ((b[j].toNat : Int) != 48) = true := by simp; omega
            have HN : Hid (res = a.size + j) := by
              have h2 := HJ.out
              rw [lead0_at b j hltj, if_neg h1] at h2
              unfold Hid
              rw [HF.out]; omega
            clear h1
            go_wp2
            go_ret
            exact ⟨ret_int (by rw [HN.out]; omega), rfl⟩
        · have HN : Hid (res = a.size + b.size) := by
            have h2 := HJ.out
            rw [lead0_end b j (by omega)] at h2
            unfold Hid
            rw [HF.out]; omega
          go_wp2
          go_ret
          exact ⟨ret_int (by rw [HN.out]; omega), rfl⟩

/-! ### zzValue -/
theorem V_take (s : ByteArray) (k : Nat) (h : k < s.size) : dgt s.data.toList ((0 : Int) + (k : Int)) = (s[k].toNat : Int) - 48 := by
  have := dgt_left s ⟨#[]⟩ k h
  simp only [List.append_nil] at this
  rw [Int.zero_add]
  exact this

set_option maxHeartbeats 400000 in
theorem value_any (s : ByteArray) (w : World) (hs : s.size ≤ 14) (ha : AllD s.data.toList) :
    Calls Try.prog 17 #[.string s] w fun e w' => e = .returned (.int .i64 (V s.data.toList 0 s.size)) ∧ w' = w := by
  have HA : Hid (AllD s.data.toList) := ha
  clear ha
  obtain ⟨res, hres⟩ : ∃ res, res = V s.data.toList 0 s.size := ⟨_, rfl⟩
  have HRES : Hid (res = V s.data.toList 0 s.size) := hres
  rw [← hres]
  clear hres
  go_enter Try.func17, Try.ntmps17
  go_wp2_with fail
  go_loop [3, 4] (fun v i => ∃ k : Nat, k ≤ s.size ∧ i = .int .i64 k ∧ v = .int .i64 (V s.data.toList 0 k)) (fun _ i => s.size - (intOf i).toNat)
  case atStart => exact ⟨0, Nat.zero_le _, rfl, rfl⟩
  case round =>
    obtain ⟨k, hk, rfl, rfl⟩ := hrel
    have hV0 := (V_bd HA.out 0 k).1
    by_cases hlt : k < s.size
    · have hV1 : V s.data.toList 0 k < 10 ^ 14 := V_lt HA.out 0 (by omega)
      have hV2 : V s.data.toList 0 k ≤ 99999999999999 := by
        have : (10 : Int) ^ 14 = 100000000000000 := rfl
        omega
      obtain ⟨h48, h57⟩ := HA.out.at k hlt
      have HN : Hid (V s.data.toList 0 (k + 1) = V s.data.toList 0 k * 10 + ((s[k].toNat : Int) - 48)) := by
        unfold Hid; rw [← V_take s k hlt]; rfl
      clear hV1
      generalize V s.data.toList 0 k = v at *
      go_wp2
      go_round
      case rel => exact ⟨k + 1, by omega, by go_num, by rw [HN.out]⟩
      case measure => simp [intOf]; omega
    · have HF : Hid (res = V s.data.toList 0 k) := by unfold Hid; rw [HRES.out, show k = s.size by omega]
      go_wp2
      go_ret
      exact ⟨ret_int (by rw [HF.out]), rfl⟩
end Go.Proofs.Qxb6604309a
