import Derived.Test.Qxb6604309aFig
import Derived.Test.Qxb6604309aStr
import Derived.Lib.Strings
import Derived.Deep.DeepCutAuto
import Derived.Deep.CutBlock
namespace Go.Proofs.Qxb6604309a
open Go.RowKit

theorem hd_at (s : ByteArray) (k : Nat) (h : k < s.size) : hd (s.data.toList.drop k) = s[k].toNat := by rw [drop_byte s k h]; rfl
theorem hd_end (s : ByteArray) (k : Nat) (h : s.size ≤ k) : hd (s.data.toList.drop k) = 0 := by rw [List.drop_of_length_le (by rw [size_list]; exact h)]; rfl
theorem cntD_at (s : ByteArray) (k : Nat) (h : k < s.size) : cntD (s.data.toList.drop k) = if isD s[k].toNat then cntD (s.data.toList.drop (k + 1)) + 1 else 0 := by rw [drop_byte s k h]; rfl
theorem cntD_end (s : ByteArray) (k : Nat) (h : s.size ≤ k) : cntD (s.data.toList.drop k) = 0 := by rw [List.drop_of_length_le (by rw [size_list]; exact h)]; rfl
theorem drop_tail (s : ByteArray) (k : Nat) : (s.data.toList.drop k).tail = s.data.toList.drop (k + 1) := by rw [List.tail_drop]

theorem isDigit_any (n : Nat) (w : World) :
    Calls Try.prog 18 #[.int .u8 (n : Int)] w fun e w' => e = .returned (.bool (isD n)) ∧ w' = w := by
  by_cases h : 48 ≤ n
  · have E : Hid (decide ((n : Int) ≤ 57) = isD n) := by unfold Hid; simp [isD, h]; omega
    go_enter Try.func18, Try.ntmps18
    go_wp2
    go_ret
    exact ⟨ret_bool E.out, rfl⟩
  · have E : Hid (false = isD n) := by unfold Hid; simp [isD, h]
    go_enter Try.func18, Try.ntmps18
    go_wp2
    go_ret
    exact ⟨ret_bool E.out, rfl⟩

/-! ### zzCappedExponent -/
set_option maxRecDepth 100000 in
set_option maxHeartbeats 1000000 in
theorem capped_any (s : ByteArray) (w : World) (hs : s.size ≤ 4194304) (ha : AllD s.data.toList) :
    Calls Try.prog 14 #[.string s] w fun e w' => e = .returned (.int .i64 (capM s.data.toList)) ∧ w' = w := by
  have HA : Hid (AllD s.data.toList) := ha
  clear ha
  go_enter Try.func14, Try.ntmps14
  go_upto_block 0 with fail
  go_cut [3] (fun v wx => v = .int .i64 ((lead0 s.data.toList : Nat) : Int) ∧ wx = w)
  case first =>
    obtain ⟨res, hres⟩ : ∃ res, res = lead0 s.data.toList := ⟨_, rfl⟩
    have HRES : Hid (res = lead0 s.data.toList) := hres
    clear hres
    go_wp2_with fail
    go_loop [3] (fun v => ∃ k : Nat, k ≤ s.size ∧ v = .int .i64 k ∧ Hid (k + lead0 (s.data.toList.drop k) = res)) (fun v => s.size - (intOf v).toNat)
    case atStart => exact ⟨0, Nat.zero_le _, rfl, by unfold Hid; rw [HRES.out]; simp⟩
    case round =>
      obtain ⟨j, hj, rfl, HJ⟩ := hrel
      by_cases hltj : j < s.size
      · by_cases h1 : s[j].toNat = 48
        · have b1 : ((s[j].toNat : Int) == 48) = true := by simp [h1]
          have HN : Hid (j + 1 + lead0 (s.data.toList.drop (j + 1)) = res) := by
            have h2 := HJ.out
            rw [lead0_at s j hltj, if_pos h1] at h2
            unfold Hid; omega
          clear h1
          go_wp2
          go_round
          case rel => exact ⟨j + 1, by omega, by go_num, HN.out⟩
          case measure => simp [intOf]; omega
        · have b1 : ((s[j].toNat : Int) == 48) = false := by simp; omega
          have HN : Hid (j = res) := by
            have h2 := HJ.out
            rw [lead0_at s j hltj, if_neg h1] at h2
            unfold Hid; omega
          clear h1
          go_wp2
          go_meet
          exact ⟨by rw [← HRES.out, HN.out], rfl⟩
      · have HN : Hid (j = res) := by
          have h2 := HJ.out
          rw [lead0_end s j (by omega)] at h2
          unfold Hid; omega
        have hdl : decide (j < s.size) = false := decide_eq_false hltj
        go_wp2
        go_meet
        exact ⟨by rw [← HRES.out, HN.out], rfl⟩
  case rest =>
    obtain ⟨rfl, rfl⟩ := hcut
    have hfl := lead0_le s.data.toList
    rw [size_list] at hfl
    have HC : Hid (capM s.data.toList = capT (s.data.toList.drop (lead0 s.data.toList))) := rfl
    generalize lead0 s.data.toList = f at *
    go_upto_region 5 with fail
    obtain ⟨t, ht⟩ : ∃ t, t = s.extract f s.size := ⟨_, rfl⟩
    have HT : Hid (t.data.toList = s.data.toList.drop f) := by
      unfold Hid; rw [ht, Lib.extract_data, List.take_of_length_le (by rw [List.length_drop, size_list]; omega)]
    have htz : t.size ≤ 4194304 := by rw [← size_list, HT.out, List.length_drop, size_list]; omega
    rw [← ht]
    clear ht
    have HAT : Hid (AllD t.data.toList) := by unfold Hid; rw [HT.out]; exact fun b hb => HA.out b (List.mem_of_mem_drop hb)
    have HCT : Hid (capM s.data.toList = capT t.data.toList) := by unfold Hid; rw [HC.out, HT.out]
    have HCU : Hid (capT t.data.toList = if t.data.toList.length ≤ 13 then V t.data.toList 0 t.data.toList.length else if 1099511627776 ≤ V (t.data.toList.take 13) 0 13 then V (t.data.toList.take 13) 0 13 else V (t.data.toList.take 14) 0 14) := rfl
    by_cases h13 : t.size ≤ 13
    · have hv := value_any t wc (by omega) HAT.out
      have HR : Hid (capM s.data.toList = V t.data.toList 0 t.size) := by
        unfold Hid; rw [HCT.out, HCU.out, if_pos (by rw [size_list]; exact h13), size_list]
      go_wp2_with (go_at_call 17; refine hv.mono ?_; rintro e w' ⟨rfl, rfl⟩)
      go_ret
      exact ⟨ret_int (by rw [HR.out]), rfl⟩
    · have hd13 : decide (t.size ≤ 13) = false := decide_eq_false h13
      have h13z : (t.extract 0 13).size = 13 := by rw [← size_list, Lib.extract_data, List.length_take, List.length_drop, size_list]; omega
      have h14z : (t.extract 0 14).size = 14 := by rw [← size_list, Lib.extract_data, List.length_take, List.length_drop, size_list]; omega
      have e13 : (t.extract 0 13).data.toList = t.data.toList.take 13 := by rw [Lib.extract_data]; simp
      have e14 : (t.extract 0 14).data.toList = t.data.toList.take 14 := by rw [Lib.extract_data]; simp
      have hv13 := value_any (t.extract 0 13) wc (by omega) (by rw [e13]; exact fun b hb => HAT.out b (List.mem_of_mem_take hb))
      have hv14 := value_any (t.extract 0 14) wc (by omega) (by rw [e14]; exact fun b hb => HAT.out b (List.mem_of_mem_take hb))
      rw [e13, h13z] at hv13
      rw [e14, h14z] at hv14
      have HR : Hid (capM s.data.toList = if 1099511627776 ≤ V (t.data.toList.take 13) 0 13 then V (t.data.toList.take 13) 0 13 else V (t.data.toList.take 14) 0 14) := by
        unfold Hid; rw [HCT.out, HCU.out, if_neg (by rw [size_list]; exact h13)]
      clear h13z h14z e13 e14 HCT HCU
      generalize V (t.data.toList.take 13) 0 13 = v13 at *
      generalize V (t.data.toList.take 14) 0 14 = v14 at *
      by_cases hb : 1099511627776 ≤ v13
      · have HR2 : Hid (capM s.data.toList = v13) := by have := HR.out; rwa [if_pos hb] at this
        go_wp2_with fail
        refine hv13.mono ?_
        rintro e wx ⟨rfl, hw⟩
        rw [hw]
        clear hw wx hv13 hv14
        go_wp2
        go_ret
        exact ⟨ret_int (by rw [HR2.out]), rfl⟩
      · have HR2 : Hid (capM s.data.toList = v14) := by have := HR.out; rwa [if_neg hb] at this
        go_wp2_with fail
        refine hv13.mono ?_
        rintro e wx ⟨rfl, hw⟩
        rw [hw]
        clear hw wx hv13
        go_wp2_with fail
        refine hv14.mono ?_
        rintro e wx ⟨rfl, hw⟩
        rw [hw]
        clear hw wx hv14
        go_wp2
        go_ret
        exact ⟨ret_int (by rw [HR2.out]), rfl⟩
end Go.Proofs.Qxb6604309a
