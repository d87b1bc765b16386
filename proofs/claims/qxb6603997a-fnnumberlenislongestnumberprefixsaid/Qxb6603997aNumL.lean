import Derived.Test.Qxb6603997aNumW
namespace Go.Proofs.Qxb6603997a
open Go.RowKit

theorem auto_at (s : ByteArray) (st k last : Nat) (h : k < s.size) : auto st (s.data.toList.drop k) k last = if stepN st s[k].toNat = 0 then last else auto (stepN st s[k].toNat) (s.data.toList.drop (k + 1)) (k + 1) (if accN (stepN st s[k].toNat) then k + 1 else last) := by
  rw [drop_at s k h]; rfl
theorem auto_end (s : ByteArray) (st k last : Nat) (h : s.size ≤ k) : auto st (s.data.toList.drop k) k last = last := by
  rw [List.drop_of_length_le (by rw [size_list]; exact h)]; cases st <;> rfl

set_option maxHeartbeats 400000 in
theorem longest_any (s : ByteArray) (w : World) (hs : s.size ≤ 2097152) :
    Calls Try.prog 7 #[.string s] w fun e w' => e = .returned (.int .i64 ((auto 1 s.data.toList 0 0 : Nat) : Int)) ∧ w' = w := by
  obtain ⟨res, hres⟩ : ∃ res, res = auto 1 s.data.toList 0 0 := ⟨_, rfl⟩
  have HRES : Hid (res = auto 1 s.data.toList 0 0) := hres
  rw [← hres]
  clear hres
  go_enter Try.func7, Try.ntmps7
  go_wp2_with fail
  go_loop [3, 4, 5] (fun la st i => ∃ k sn last : Nat, k ≤ s.size ∧ i = .int .i64 k ∧ st = .int .i64 (sn : Int) ∧ la = .int .i64 (last : Int) ∧ 1 ≤ sn ∧ sn ≤ 9 ∧ last ≤ k ∧ Hid (auto sn (s.data.toList.drop k) k last = res)) (fun _ _ i => s.size - (intOf i).toNat)
  case atStart => exact ⟨0, 1, 0, Nat.zero_le _, rfl, rfl, rfl, by omega, by omega, by omega, HRES.out.symm⟩
  case round =>
    obtain ⟨k, sn, last, hk, rfl, rfl, rfl, h1, h9, hla, HA⟩ := hrel
    by_cases hlt : k < s.size
    · have HA2 : Hid ((if stepN sn s[k].toNat = 0 then last else auto (stepN sn s[k].toNat) (s.data.toList.drop (k + 1)) (k + 1) (if accN (stepN sn s[k].toNat) then k + 1 else last)) = res) := by
        have := HA.out
        rwa [auto_at s sn k last hlt] at this
      have h9' := stepN_le sn s[k].toNat
      clear HA
      go_wp2_with fail
      refine (nlStep_any sn s[k].toNat h1 h9 _).mono ?_
      rintro e w' ⟨rfl, hw⟩
      rw [hw]
      clear hw w'
      generalize stepN sn s[k].toNat = st2 at HA2 h9' ⊢
      by_cases h0 : st2 = 0
      · have hb : ((st2 : Int) == 0) = true := by simp [h0]
        have HR : Hid (last = res) := by have := HA2.out; rwa [if_pos h0] at this
        clear h0
        go_wp2
        go_ret
        exact ⟨ret_int (by rw [HR.out]), rfl⟩
      · have hb : ((st2 : Int) == 0) = false := by simp [h0]
        have hst1 : 1 ≤ st2 := by omega
        have HR : Hid (auto st2 (s.data.toList.drop (k + 1)) (k + 1) (if accN st2 then k + 1 else last) = res) := by have := HA2.out; rwa [if_neg h0] at this
        clear h0 HA2
        go_wp2_with fail
        refine (nlAccepting_any st2 _).mono ?_
        rintro e w' ⟨rfl, hw⟩
        rw [hw]
        clear hw w'
        rcases Bool.eq_false_or_eq_true (accN st2) with ha | ha
        · go_wp2
          go_round
          case rel => exact ⟨k + 1, st2, k + 1, by omega, by go_num, rfl, by go_num, hst1, h9', by omega, by have := HR.out; rwa [if_pos ha] at this⟩
          case measure => simp [intOf]; omega
        · go_wp2
          go_round
          case rel => exact ⟨k + 1, st2, last, by omega, by go_num, rfl, rfl, hst1, h9', by omega, by have := HR.out; rwa [if_neg (by simp [ha])] at this⟩
          case measure => simp [intOf]; omega
    · have HR : Hid (last = res) := by have := HA.out; rwa [auto_end s sn k last (by omega)] at this
      clear HA
      go_wp2
      go_ret
      exact ⟨ret_int (by rw [HR.out]), rfl⟩
end Go.Proofs.Qxb6603997a
