import Derived.Test.Qxb6603997aNumW
import Derived.Deep.DeepCutAuto
import Derived.Deep.CutBlock
import Derived.Deep.LoopGhost
namespace Go.Proofs.Qxb6603997a
open Go.RowKit

def hexB (s : ByteArray) : Bool := decide (2 < s.size ∧ hd (s.data.toList.drop 0) = 48 ∧ (hd (s.data.toList.drop 1) = 120 ∨ hd (s.data.toList.drop 1) = 98))

theorem num_hex (s : ByteArray) (h : hexB s = true) (h2 : 0 < cnt isH (s.data.toList.drop 2)) : numA s.data.toList = 2 + cnt isH (s.data.toList.drop 2) := by
  have := of_decide_eq_true h
  unfold numA
  rw [if_pos ⟨by rw [size_list]; exact this.1, by simpa using this.2.1, by simpa using this.2.2, h2⟩]
theorem num_dec (s : ByteArray) (h : hexB s = true → cnt isH (s.data.toList.drop 2) = 0) : numA s.data.toList = decA s.data.toList 0 := by
  unfold numA
  rw [if_neg]
  rintro ⟨a, b, c, d⟩
  have := h (decide_eq_true ⟨by rw [size_list] at a; exact a, by simpa using b, by simpa using c⟩)
  omega

theorem drop_drop1 (s : ByteArray) (k : Nat) : (s.data.toList.drop k).tail = s.data.toList.drop (k + 1) := by rw [List.tail_drop]

set_option maxRecDepth 100000 in
set_option maxHeartbeats 4000000 in
theorem numberLen_any (s : ByteArray) (w : World) (hs : s.size ≤ 2097152) :
    Calls Try.prog 24 #[.string s] w fun e w' => e = .returned (.int .i64 ((numA s.data.toList : Nat) : Int)) ∧ w' = w := by
  obtain ⟨res, hres⟩ : ∃ res, res = numA s.data.toList := ⟨_, rfl⟩
  have HRES : Hid (res = numA s.data.toList) := hres
  rw [← hres]
  clear hres
  go_enter Try.func24, Try.ntmps24
  go_upto_region 1 with fail
  go_cut [23] (fun c wx => c = .bool (hexB s) ∧ wx = w)
  case first =>
    have HH : Hid (hexB s = decide (2 < s.size ∧ hd (s.data.toList.drop 0) = 48 ∧ (hd (s.data.toList.drop 1) = 120 ∨ hd (s.data.toList.drop 1) = 98))) := rfl
    by_cases h2 : 2 < s.size
    · have e0 := hd_at s 0 (by omega)
      have e1 := hd_at s 1 (by omega)
      by_cases h0 : s[0].toNat = 48
      · have b0 : ((s[0].toNat : Int) == 48) = true := by simp [h0]
        by_cases hx : s[1].toNat = 120
        · have b1 : ((s[1].toNat : Int) == 120) = true := by simp [hx]
          have HF : Hid (hexB s = true) := by unfold Hid; rw [HH.out, e0, e1]; simp [h0, hx, h2]
          clear e0 e1 HH h0 hx
          go_wp2
          go_meet
          exact ⟨by rw [HF.out], rfl⟩
        · have b1 : ((s[1].toNat : Int) == 120) = false := by simp; omega
          by_cases hb : s[1].toNat = 98
          · have b2 : ((s[1].toNat : Int) == 98) = true := by simp [hb]
            have HF : Hid (hexB s = true) := by unfold Hid; rw [HH.out, e0, e1]; simp [h0, hb, h2]
            clear e0 e1 HH h0 hx hb
            go_wp2
            go_meet
            exact ⟨by rw [HF.out], rfl⟩
          · have b2 : ((s[1].toNat : Int) == 98) = false := by simp; omega
            have HF : Hid (hexB s = false) := by unfold Hid; rw [HH.out, e0, e1]; simp [hx, hb]
            clear e0 e1 HH h0 hx hb
            go_wp2
            go_meet
            exact ⟨by rw [HF.out], rfl⟩
      · have b0 : ((s[0].toNat : Int) == 48) = false := by simp; omega
        have HF : Hid (hexB s = false) := by unfold Hid; rw [HH.out, e0]; simp [h0]
        clear e0 e1 HH h0
        go_wp2
        go_meet
        exact ⟨by rw [HF.out], rfl⟩
    · have HF : Hid (hexB s = false) := by unfold Hid; rw [HH.out]; simp [h2]
      have hd2 : decide (2 < (s.size : Int)) = false := decide_eq_false (by omega)
      clear HH
      go_wp2
      go_meet
      exact ⟨by rw [HF.out], rfl⟩
  case rest =>
    obtain ⟨rfl, rfl⟩ := hcut
    go_upto_if 23 with fail
    go_cut [3] (fun v wx => Hid (numA s.data.toList = decA s.data.toList 0) ∧ wx = wc)
    case first =>
      rcases Bool.eq_false_or_eq_true (hexB s) with hB | hB
      · rw [hB]
        go_wp2_with fail
        go_loop [3] (fun v => ∃ k : Nat, 2 ≤ k ∧ k ≤ s.size ∧ v = .int .i64 k ∧ Hid (k + cnt isH (s.data.toList.drop k) = 2 + cnt isH (s.data.toList.drop 2))) (fun v => s.size - (intOf v).toNat)
        case atStart => exact ⟨2, by omega, by have := of_decide_eq_true hB; omega, rfl, rfl⟩
        case round =>
          obtain ⟨k, hk2, hk, rfl, HK⟩ := hrel
          have fin : (cnt isH (s.data.toList.drop k) = 0) → (2 < k → res = k) ∧ (k = 2 → numA s.data.toList = decA s.data.toList 0) := by
            intro h0
            have hk' := HK.out
            constructor
            · intro h
              rw [HRES.out, num_hex s hB (by omega)]; omega
            · intro h
              subst h
              exact num_dec s (fun _ => h0)
          have FIN : Hid ((cnt isH (s.data.toList.drop k) = 0) → (2 < k → res = k) ∧ (k = 2 → numA s.data.toList = decA s.data.toList 0)) := fin
          clear fin
          by_cases hlt : k < s.size
          · have HC := cnt_at isH s k hlt
            have HCC : Hid (cnt isH (s.data.toList.drop k) = if isH s[k].toNat then cnt isH (s.data.toList.drop (k + 1)) + 1 else 0) := HC
            clear HC
            rcases Bool.eq_false_or_eq_true (isH s[k].toNat) with hh | hh
            · go_wp2_with (go_at_call 37; refine (isHex_any _ _).mono ?_; rintro e w' ⟨rfl, rfl⟩)
              go_round
              case rel => exact ⟨k + 1, by omega, by omega, by go_num, by have h1 := HCC.out; rw [if_pos hh] at h1; have h2 := HK.out; unfold Hid; omega⟩
              case measure => simp [intOf]; omega
            · have h0 : Hid (cnt isH (s.data.toList.drop k) = 0) := by have h1 := HCC.out; rwa [if_neg (by simp [hh])] at h1
              by_cases hk3 : 2 < k
              · go_wp2_with (go_at_call 37; refine (isHex_any _ _).mono ?_; rintro e w' ⟨rfl, rfl⟩)
                go_ret
                exact ⟨ret_int (by rw [(FIN.out h0.out).1 hk3]), rfl⟩
              · go_wp2_with (go_at_call 37; refine (isHex_any _ _).mono ?_; rintro e w' ⟨rfl, rfl⟩)
                go_meet
                exact ⟨(FIN.out h0.out).2 (by omega), rfl⟩
          · have h0 : Hid (cnt isH (s.data.toList.drop k) = 0) := cnt_end isH s k (by omega)
            by_cases hk3 : 2 < k
            · go_wp2_with fail
              go_ret
              exact ⟨ret_int (by rw [(FIN.out h0.out).1 hk3]), rfl⟩
            · go_wp2_with fail
              go_meet
              exact ⟨(FIN.out h0.out).2 (by omega), rfl⟩
      · rw [hB]
        go_wp2
        go_meet
        exact ⟨num_dec s (fun h => by rw [hB] at h; cases h), rfl⟩
    case rest =>
      obtain ⟨HD, rfl⟩ := hcut
      go_upto_block 2 with fail
      go_cut [4] (fun v wx => ∃ k : Nat, k ≤ s.size ∧ v = .int .i64 k ∧ Hid (fracA (s.data.toList.drop k) k = res) ∧ wx = wc)
      case first =>
        have HF0 : Hid (decA s.data.toList 0 = res) := by unfold Hid; rw [HRES.out, HD.out]
        go_wp2_with fail
        go_loop [4] (fun v => ∃ k : Nat, k ≤ s.size ∧ v = .int .i64 k ∧ Hid (decA (s.data.toList.drop k) k = res)) (fun v => s.size - (intOf v).toNat)
        case atStart => exact ⟨0, Nat.zero_le _, rfl, HF0.out⟩
        case round =>
          obtain ⟨k, hk, rfl, HK⟩ := hrel
          by_cases hlt : k < s.size
          · have HCC : Hid (cnt isD (s.data.toList.drop k) = if isD s[k].toNat then cnt isD (s.data.toList.drop (k + 1)) + 1 else 0) := cnt_at isD s k hlt
            rcases Bool.eq_false_or_eq_true (isD s[k].toNat) with hh | hh
            · have HN : Hid (decA (s.data.toList.drop (k + 1)) (k + 1) = res) := by
                have h1 := HK.out
                unfold decA at h1
                rw [HCC.out, if_pos hh] at h1
                unfold Hid decA
                rw [← h1, drop_at s k hlt, List.drop_succ_cons]
                congr 1; omega
              go_wp2_with (go_at_call 38; refine (isDigit_any _ _).mono ?_; rintro e w' ⟨rfl, rfl⟩)
              go_round
              case rel => exact ⟨k + 1, by omega, by go_num, HN.out⟩
              case measure => simp [intOf]; omega
            · have HN : Hid (fracA (s.data.toList.drop k) k = res) := by
                have h1 := HK.out
                unfold decA at h1
                rw [HCC.out, if_neg (by simp [hh])] at h1
                exact h1
              go_wp2_with (go_at_call 38; refine (isDigit_any _ _).mono ?_; rintro e w' ⟨rfl, rfl⟩)
              go_meet
              exact ⟨k, hk, rfl, HN.out, rfl⟩
          · have HN : Hid (fracA (s.data.toList.drop k) k = res) := by
              have h1 := HK.out
              unfold decA at h1
              rw [cnt_end isD s k (by omega)] at h1
              exact h1
            go_wp2_with fail
            go_meet
            exact ⟨k, hk, rfl, HN.out, rfl⟩
      case rest =>
        obtain ⟨k, hk, rfl, HK, rfl⟩ := hcut
        go_upto_region 10 with fail
        go_cut [60] (fun c wx => c = .bool (decide (hd (s.data.toList.drop k) = 46)) ∧ wx = wc)
        case first =>
          by_cases hlt : k < s.size
          · have e0 := hd_at s k hlt
            by_cases h0 : s[k].toNat = 46
            · have b0 : ((s[k].toNat : Int) == 46) = true := by simp [h0]
              have HF : Hid (decide (hd (s.data.toList.drop k) = 46) = true) := by unfold Hid; rw [e0]; simp [h0]
              clear e0 h0
              go_wp2
              go_meet
              exact ⟨by rw [HF.out], rfl⟩
            · have b0 : ((s[k].toNat : Int) == 46) = false := by simp; omega
              have HF : Hid (decide (hd (s.data.toList.drop k) = 46) = false) := by unfold Hid; rw [e0]; simp [h0]
              clear e0 h0
              go_wp2
              go_meet
              exact ⟨by rw [HF.out], rfl⟩
          · have e0 := hd_end s k (by omega)
            have HF : Hid (decide (hd (s.data.toList.drop k) = 46) = false) := by unfold Hid; rw [e0]; simp
            have hdl : decide (k < s.size) = false := decide_eq_false hlt
            clear e0
            go_wp2
            go_meet
            exact ⟨by rw [HF.out], rfl⟩
        case rest =>
          obtain ⟨rfl, rfl⟩ := hcut
          go_upto_if 60 with fail
          go_cut [4] (fun v wx => ∃ k : Nat, k ≤ s.size ∧ v = .int .i64 k ∧ Hid (expA (s.data.toList.drop k) k = res) ∧ wx = wc)
          case first =>
            rcases Bool.eq_false_or_eq_true (decide (hd (s.data.toList.drop k) = 46)) with hB | hB
            · have hB2 := of_decide_eq_true hB
              have hlt : k < s.size := by
                by_cases h : k < s.size
                · exact h
                · rw [hd_end s k (by omega)] at hB2; cases hB2
              have HN : Hid (expA ((s.data.toList.drop (k + 1)).drop (cnt isD (s.data.toList.drop (k + 1)))) (k + 1 + cnt isD (s.data.toList.drop (k + 1))) = res) := by
                have h1 := HK.out
                unfold fracA at h1
                rw [if_pos hB2, drop_drop1] at h1
                exact h1
              rw [hB]
              clear hB hB2 HK
              go_wp2_with fail
              go_loop [4] (fun v => ∃ k : Nat, k ≤ s.size ∧ v = .int .i64 k ∧ Hid (expA ((s.data.toList.drop k).drop (cnt isD (s.data.toList.drop k))) (k + cnt isD (s.data.toList.drop k)) = res)) (fun v => s.size - (intOf v).toNat)
              case atStart => exact ⟨k + 1, by omega, by go_num, HN.out⟩
              case round =>
                clear HN hlt hk
                obtain ⟨k, hk, rfl, HK⟩ := hrel
                by_cases hlt : k < s.size
                · have HCC : Hid (cnt isD (s.data.toList.drop k) = if isD s[k].toNat then cnt isD (s.data.toList.drop (k + 1)) + 1 else 0) := cnt_at isD s k hlt
                  rcases Bool.eq_false_or_eq_true (isD s[k].toNat) with hh | hh
                  · have HN : Hid (expA ((s.data.toList.drop (k + 1)).drop (cnt isD (s.data.toList.drop (k + 1)))) (k + 1 + cnt isD (s.data.toList.drop (k + 1))) = res) := by
                      have h1 := HK.out
                      rw [HCC.out, if_pos hh] at h1
                      unfold Hid
                      rw [← h1, drop_at s k hlt, List.drop_succ_cons]
                      congr 1; omega
                    go_wp2_with (go_at_call 38; refine (isDigit_any _ _).mono ?_; rintro e w' ⟨rfl, rfl⟩)
                    go_round
                    case rel => exact ⟨k + 1, by omega, by go_num, HN.out⟩
                    case measure => simp [intOf]; omega
                  · have HN : Hid (expA (s.data.toList.drop k) k = res) := by
                      have h1 := HK.out
                      rw [HCC.out, if_neg (by simp [hh])] at h1
                      exact h1
                    go_wp2_with (go_at_call 38; refine (isDigit_any _ _).mono ?_; rintro e w' ⟨rfl, rfl⟩)
                    go_meet
                    exact ⟨k, hk, rfl, HN.out, rfl⟩
                · have HN : Hid (expA (s.data.toList.drop k) k = res) := by
                    have h1 := HK.out
                    rw [cnt_end isD s k (by omega)] at h1
                    exact h1
                  go_wp2_with fail
                  go_meet
                  exact ⟨k, hk, rfl, HN.out, rfl⟩
            · have HN : Hid (expA (s.data.toList.drop k) k = res) := by
                have h1 := HK.out
                unfold fracA at h1
                rw [if_neg (of_decide_eq_false hB)] at h1
                exact h1
              rw [hB]
              go_wp2
              go_meet
              exact ⟨k, hk, rfl, HN.out, rfl⟩
          case rest =>
            clear HK hk
            obtain ⟨k, hk, rfl, HK, rfl⟩ := hcut
            go_upto_region 14 with fail
            go_cut [90] (fun c wx => c = .bool (isE (hd (s.data.toList.drop k))) ∧ wx = wc)
            case first =>
              have HE0 : Hid (∀ n, isE n = (decide (n = 101) || decide (n = 69))) := fun _ => rfl
              by_cases hlt : k < s.size
              · have e0 := hd_at s k hlt
                by_cases h0 : s[k].toNat = 101
                · have b0 : ((s[k].toNat : Int) == 101) = true := by simp [h0]
                  have HF : Hid (isE (hd (s.data.toList.drop k)) = true) := by unfold Hid; rw [e0, HE0.out]; simp [h0]
                  clear e0 h0
                  go_wp2
                  go_meet
                  exact ⟨by rw [HF.out], rfl⟩
                · have b0 : ((s[k].toNat : Int) == 101) = false := by simp; omega
                  by_cases h1 : s[k].toNat = 69
                  · have b1 : ((s[k].toNat : Int) == 69) = true := by simp [h1]
                    have HF : Hid (isE (hd (s.data.toList.drop k)) = true) := by unfold Hid; rw [e0, HE0.out]; simp [h1]
                    clear e0 h0 h1
                    go_wp2
                    go_meet
                    exact ⟨by rw [HF.out], rfl⟩
                  · have b1 : ((s[k].toNat : Int) == 69) = false := by simp; omega
                    have HF : Hid (isE (hd (s.data.toList.drop k)) = false) := by unfold Hid; rw [e0, HE0.out]; simp [h0, h1]
                    clear e0 h0 h1
                    go_wp2
                    go_meet
                    exact ⟨by rw [HF.out], rfl⟩
              · have e0 := hd_end s k (by omega)
                have HF : Hid (isE (hd (s.data.toList.drop k)) = false) := by unfold Hid; rw [e0, HE0.out]; simp
                have hdl : decide (k < s.size) = false := decide_eq_false hlt
                clear e0
                go_wp2
                go_meet
                exact ⟨by rw [HF.out], rfl⟩
            case rest =>
              obtain ⟨rfl, rfl⟩ := hcut
              rcases Bool.eq_false_or_eq_true (isE (hd (s.data.toList.drop k))) with hB | hB
              · have hlt : k < s.size := by
                  by_cases h : k < s.size
                  · exact h
                  · rw [hd_end s k (by omega)] at hB; cases hB
                have HN : Hid (expT (s.data.toList.drop (k + 1)) (k + 1) k = res) := by
                  have h1 := HK.out
                  unfold expA at h1
                  rw [if_pos hB, drop_drop1] at h1
                  exact h1
                rw [hB]
                clear hB HK
                go_upto_region 16 with fail
                go_cut [108] (fun c wx => c = .bool (isS (hd (s.data.toList.drop (k + 1)))) ∧ wx = wc)
                case first =>
                  have HE0 : Hid (∀ n, isS n = (decide (n = 43) || decide (n = 45))) := fun _ => rfl
                  by_cases hlt1 : k + 1 < s.size
                  · have e0 := hd_at s (k + 1) hlt1
                    by_cases h0 : s[k + 1].toNat = 43
                    · have b0 : ((s[k + 1].toNat : Int) == 43) = true := by simp [h0]
                      have HF : Hid (isS (hd (s.data.toList.drop (k + 1))) = true) := by unfold Hid; rw [e0, HE0.out]; simp [h0]
                      clear e0 h0
                      go_wp2
                      go_meet
                      exact ⟨by rw [HF.out], rfl⟩
                    · have b0 : ((s[k + 1].toNat : Int) == 43) = false := by simp; omega
                      by_cases h1 : s[k + 1].toNat = 45
                      · have b1 : ((s[k + 1].toNat : Int) == 45) = true := by simp [h1]
                        have HF : Hid (isS (hd (s.data.toList.drop (k + 1))) = true) := by unfold Hid; rw [e0, HE0.out]; simp [h1]
                        clear e0 h0 h1
                        go_wp2
                        go_meet
                        exact ⟨by rw [HF.out], rfl⟩
                      · have b1 : ((s[k + 1].toNat : Int) == 45) = false := by simp; omega
                        have HF : Hid (isS (hd (s.data.toList.drop (k + 1))) = false) := by unfold Hid; rw [e0, HE0.out]; simp [h0, h1]
                        clear e0 h0 h1
                        go_wp2
                        go_meet
                        exact ⟨by rw [HF.out], rfl⟩
                  · have e0 := hd_end s (k + 1) (by omega)
                    have HF : Hid (isS (hd (s.data.toList.drop (k + 1))) = false) := by unfold Hid; rw [e0, HE0.out]; simp
                    have hdl : decide ((k : Int) + 1 < (s.size : Int)) = false := decide_eq_false (by omega)
                    clear e0
                    go_wp2
                    go_meet
                    exact ⟨by rw [HF.out], rfl⟩
                case rest =>
                  obtain ⟨rfl, rfl⟩ := hcut
                  go_upto_if 108 with fail
                  go_cut [5] (fun v wx => ∃ e : Nat, e ≤ s.size ∧ v = .int .i64 e ∧ Hid ((if isD (hd (s.data.toList.drop e)) then e + cnt isD (s.data.toList.drop e) else k) = res) ∧ wx = wc)
                  case first =>
                    rcases Bool.eq_false_or_eq_true (isS (hd (s.data.toList.drop (k + 1)))) with hB | hB
                    · have hlt1 : k + 1 < s.size := by
                        by_cases h : k + 1 < s.size
                        · exact h
                        · rw [hd_end s (k + 1) (by omega)] at hB; cases hB
                      have HN2 : Hid ((if isD (hd (s.data.toList.drop (k + 1 + 1))) then k + 1 + 1 + cnt isD (s.data.toList.drop (k + 1 + 1)) else k) = res) := by
                        have h1 := HN.out
                        unfold expT at h1
                        rw [if_pos hB, drop_drop1] at h1
                        exact h1
                      rw [hB]
                      go_wp2
                      go_meet
                      exact ⟨k + 1 + 1, by omega, by go_num, HN2.out, rfl⟩
                    · have HN2 : Hid ((if isD (hd (s.data.toList.drop (k + 1))) then k + 1 + cnt isD (s.data.toList.drop (k + 1)) else k) = res) := by
                        have h1 := HN.out
                        unfold expT at h1
                        rw [if_neg (by simp [hB])] at h1
                        exact h1
                      rw [hB]
                      go_wp2
                      go_meet
                      exact ⟨k + 1, by omega, by go_num, HN2.out, rfl⟩
                  case rest =>
                    clear HN
                    obtain ⟨e, he, rfl, HN, rfl⟩ := hcut
                    go_upto_region 18 with fail
                    go_cut [120] (fun c wx => c = .bool (isD (hd (s.data.toList.drop e))) ∧ wx = wc)
                    case first =>
                      by_cases hlt1 : e < s.size
                      · have HF : Hid (hd (s.data.toList.drop e) = s[e].toNat) := hd_at s e hlt1
                        go_wp2_with (go_at_call 38; refine (isDigit_any _ _).mono ?_; rintro e w' ⟨rfl, rfl⟩)
                        go_meet
                        exact ⟨by rw [HF.out], rfl⟩
                      · have e0 := hd_end s e (by omega)
                        have HF : Hid (isD (hd (s.data.toList.drop e)) = false) := by unfold Hid; rw [e0]; rfl
                        have hdl : decide (e < s.size) = false := decide_eq_false hlt1
                        clear e0
                        go_wp2_with fail
                        go_meet
                        exact ⟨by rw [HF.out], rfl⟩
                    case rest =>
                      obtain ⟨rfl, rfl⟩ := hcut
                      rcases Bool.eq_false_or_eq_true (isD (hd (s.data.toList.drop e))) with hB | hB
                      · have HN2 : Hid (e + cnt isD (s.data.toList.drop e) = res) := by have h1 := HN.out; rwa [if_pos hB] at h1
                        rw [hB]
                        clear hB HN
                        go_wp2_with fail
                        go_loop [5] (fun v => ∃ k : Nat, k ≤ s.size ∧ v = .int .i64 k ∧ Hid (k + cnt isD (s.data.toList.drop k) = res)) (fun v => s.size - (intOf v).toNat)
                        case atStart => exact ⟨e, he, rfl, HN2.out⟩
                        case round =>
                          obtain ⟨j, hj, rfl, HJ⟩ := hrel
                          by_cases hltj : j < s.size
                          · have HCC : Hid (cnt isD (s.data.toList.drop j) = if isD s[j].toNat then cnt isD (s.data.toList.drop (j + 1)) + 1 else 0) := cnt_at isD s j hltj
                            rcases Bool.eq_false_or_eq_true (isD s[j].toNat) with hh | hh
                            · have HN3 : Hid (j + 1 + cnt isD (s.data.toList.drop (j + 1)) = res) := by
                                have h1 := HJ.out
                                rw [HCC.out, if_pos hh] at h1
                                unfold Hid; omega
                              go_wp2_with (go_at_call 38; refine (isDigit_any _ _).mono ?_; rintro e w' ⟨rfl, rfl⟩)
                              go_round
                              case rel => exact ⟨j + 1, by omega, by go_num, HN3.out⟩
                              case measure => simp [intOf]; omega
                            · have HN3 : Hid (j = res) := by
                                have h1 := HJ.out
                                rw [HCC.out, if_neg (by simp [hh])] at h1
                                exact h1
                              go_wp2_with (go_at_call 38; refine (isDigit_any _ _).mono ?_; rintro e w' ⟨rfl, rfl⟩)
                              go_ret
                              exact ⟨ret_int (by rw [HN3.out]), rfl⟩
                          · have HN3 : Hid (j = res) := by
                              have h1 := HJ.out
                              rw [cnt_end isD s j (by omega)] at h1
                              exact h1
                            go_wp2_with fail
                            go_ret
                            exact ⟨ret_int (by rw [HN3.out]), rfl⟩
                      · have HN2 : Hid (k = res) := by have h1 := HN.out; rwa [if_neg (by simp [hB])] at h1
                        rw [hB]
                        go_wp2
                        go_ret
                        exact ⟨ret_int (by rw [HN2.out]), rfl⟩
              · have HN : Hid (k = res) := by
                  have h1 := HK.out
                  unfold expA at h1
                  rw [if_neg (by simp [hB])] at h1
                  exact h1
                rw [hB]
                go_wp2
                go_ret
                exact ⟨ret_int (by rw [HN.out]), rfl⟩
end Go.Proofs.Qxb6603997a
