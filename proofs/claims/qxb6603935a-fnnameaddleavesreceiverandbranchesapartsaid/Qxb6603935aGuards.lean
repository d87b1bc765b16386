import Derived.Test.Qxb6603935aSize
namespace Go.Proofs.Qxb6603935a
open Go.RowKit

set_option maxRecDepth 100000 in
set_option maxHeartbeats 400000 in
theorem zzBytes7 (s : ByteArray) (ao : Option Addr) (ts : List ByteArray) (cap : Nat) (x : ByteArray) (w : World) (hs : Strs w ao ts) (hl : ts.length ≤ maxLen) :
    Calls Try.prog 7 #[.string s, .slice ao ts.length cap, .string x] w fun e w' => SomeBool e ∧ w' = w := by
  unfold maxLen at hl
  by_cases hs0 : 1048576 < (s.size : Int)
  · go_enter Try.func7, Try.ntmps7
    go_wp2
    go_ret
    exact ⟨⟨_, rfl⟩, rfl⟩
  obtain ⟨n, hn⟩ : ∃ n, n = ts.length := ⟨_, rfl⟩
  have HN : Hid (n = ts.length) := hn
  rw [← hn] at hl ⊢
  have hd : decide (1048576 < (s.size : Int)) = false := decide_eq_false hs0
  by_cases hn0 : 1048576 < (n : Int)
  · clear hn
    go_enter Try.func7, Try.ntmps7
    go_wp2
    go_ret
    exact ⟨⟨_, rfl⟩, rfl⟩
  have hd1 : decide (1048576 < (n : Int)) = false := decide_eq_false hn0
  by_cases hn1 : 1048576 < (s.size : Int) + (n : Int)
  · clear hn
    go_enter Try.func7, Try.ntmps7
    go_wp2
    go_ret
    exact ⟨⟨_, rfl⟩, rfl⟩
  have hd2 : decide (1048576 < (s.size : Int) + (n : Int)) = false := decide_eq_false hn1
  rcases hs with rfl | ⟨b, off, rfl, hc⟩
  · simp at hn; subst hn
    clear HN
    go_enter Try.func7, Try.ntmps7
    go_wp2
    go_loop [7, 8] (fun t i => t = .int .i64 s.size ∧ i = .int .i64 0) (fun _ _ => 0)
    case atStart => exact ⟨by simp, rfl⟩
    case round =>
      obtain ⟨rfl, rfl⟩ := hrel
      by_cases hx1 : 1048576 < (x.size : Int)
      · go_wp2
        go_ret
        exact ⟨⟨_, rfl⟩, rfl⟩
      by_cases hx2 : 1048576 < (s.size : Int) + (x.size : Int)
      · go_wp2
        go_ret
        exact ⟨⟨_, rfl⟩, rfl⟩
      go_wp2
      go_ret
      exact ⟨⟨_, rfl⟩, rfl⟩
  · clear hn
    go_enter Try.func7, Try.ntmps7
    go_wp2
    go_loop [7, 8] (fun t i => ∃ k z : Nat, k ≤ n ∧ i = .int .i64 k ∧ t = .int .i64 (z : Int) ∧ z ≤ 1048576) (fun _ i => n - (intOf i).toNat)
    case atStart => exact ⟨0, s.size + n, Nat.zero_le _, rfl, by go_num, by omega⟩
    case round =>
      obtain ⟨k, z, hk, rfl, rfl, hz⟩ := hrel
      by_cases hlt : k < n
      · have hck := hc k (by rw [← HN.out]; exact hlt)
        generalize ts.getD k ByteArray.empty = t at hck
        clear hc
        by_cases ht : 1048576 < (t.size : Int)
        · go_wp2
          go_ret
          exact ⟨⟨_, rfl⟩, rfl⟩
        by_cases hzt : 1048576 < (z : Int) + (t.size : Int)
        · go_wp2
          go_ret
          exact ⟨⟨_, rfl⟩, rfl⟩
        · go_wp2
          go_round
          case rel => exact ⟨k + 1, z + t.size, by omega, by go_num, by go_num, by omega⟩
          case measure => simp [intOf]; omega
      · clear hc
        by_cases hx1 : 1048576 < (x.size : Int)
        · go_wp2
          go_ret
          exact ⟨⟨_, rfl⟩, rfl⟩
        by_cases hx2 : 1048576 < (z : Int) + (x.size : Int)
        · go_wp2
          go_ret
          exact ⟨⟨_, rfl⟩, rfl⟩
        go_wp2
        go_ret
        exact ⟨⟨_, rfl⟩, rfl⟩

set_option maxRecDepth 100000 in
set_option maxHeartbeats 400000 in
theorem zzBytes14 (s : ByteArray) (ao : Option Addr) (ts : List ByteArray) (cap : Nat) (x : ByteArray) (j : Int) (w : World) (hs : Strs w ao ts) (hl : ts.length ≤ maxLen) :
    Calls Try.prog 14 #[.string s, .slice ao ts.length cap, .string x, .int .i64 j] w fun e w' => SomeBool e ∧ w' = w := by
  unfold maxLen at hl
  by_cases hs0 : 1048576 < (s.size : Int)
  · go_enter Try.func14, Try.ntmps14
    go_wp2
    go_ret
    exact ⟨⟨_, rfl⟩, rfl⟩
  obtain ⟨n, hn⟩ : ∃ n, n = ts.length := ⟨_, rfl⟩
  have HN : Hid (n = ts.length) := hn
  rw [← hn] at hl ⊢
  have hd : decide (1048576 < (s.size : Int)) = false := decide_eq_false hs0
  by_cases hn0 : 1048576 < (n : Int)
  · clear hn
    go_enter Try.func14, Try.ntmps14
    go_wp2
    go_ret
    exact ⟨⟨_, rfl⟩, rfl⟩
  have hd1 : decide (1048576 < (n : Int)) = false := decide_eq_false hn0
  by_cases hn1 : 1048576 < (s.size : Int) + (n : Int)
  · clear hn
    go_enter Try.func14, Try.ntmps14
    go_wp2
    go_ret
    exact ⟨⟨_, rfl⟩, rfl⟩
  have hd2 : decide (1048576 < (s.size : Int) + (n : Int)) = false := decide_eq_false hn1
  rcases hs with rfl | ⟨b, off, rfl, hc⟩
  · simp at hn; subst hn
    clear HN
    go_enter Try.func14, Try.ntmps14
    go_wp2
    go_loop [9, 10] (fun t i => t = .int .i64 s.size ∧ i = .int .i64 0) (fun _ _ => 0)
    case atStart => exact ⟨by simp, rfl⟩
    case round =>
      obtain ⟨rfl, rfl⟩ := hrel
      by_cases hx1 : 1048576 < (x.size : Int)
      · go_wp2
        go_ret
        exact ⟨⟨_, rfl⟩, rfl⟩
      by_cases hx2 : 1048576 < (s.size : Int) + (x.size : Int)
      · go_wp2
        go_ret
        exact ⟨⟨_, rfl⟩, rfl⟩
      go_wp2
      go_ret
      exact ⟨⟨_, rfl⟩, rfl⟩
  · clear hn
    go_enter Try.func14, Try.ntmps14
    go_wp2
    go_loop [9, 10] (fun t i => ∃ k z : Nat, k ≤ n ∧ i = .int .i64 k ∧ t = .int .i64 (z : Int) ∧ z ≤ 1048576) (fun _ i => n - (intOf i).toNat)
    case atStart => exact ⟨0, s.size + n, Nat.zero_le _, rfl, by go_num, by omega⟩
    case round =>
      obtain ⟨k, z, hk, rfl, rfl, hz⟩ := hrel
      by_cases hlt : k < n
      · have hck := hc k (by rw [← HN.out]; exact hlt)
        generalize ts.getD k ByteArray.empty = t at hck
        clear hc
        by_cases ht : 1048576 < (t.size : Int)
        · go_wp2
          go_ret
          exact ⟨⟨_, rfl⟩, rfl⟩
        by_cases hzt : 1048576 < (z : Int) + (t.size : Int)
        · go_wp2
          go_ret
          exact ⟨⟨_, rfl⟩, rfl⟩
        · go_wp2
          go_round
          case rel => exact ⟨k + 1, z + t.size, by omega, by go_num, by go_num, by omega⟩
          case measure => simp [intOf]; omega
      · clear hc
        by_cases hx1 : 1048576 < (x.size : Int)
        · go_wp2
          go_ret
          exact ⟨⟨_, rfl⟩, rfl⟩
        by_cases hx2 : 1048576 < (z : Int) + (x.size : Int)
        · go_wp2
          go_ret
          exact ⟨⟨_, rfl⟩, rfl⟩
        go_wp2
        go_ret
        exact ⟨⟨_, rfl⟩, rfl⟩

set_option maxRecDepth 100000 in
set_option maxHeartbeats 400000 in
theorem zzBytes17 (s : ByteArray) (ao : Option Addr) (ts : List ByteArray) (cap : Nat) (x y : ByteArray) (w : World) (hs : Strs w ao ts) (hl : ts.length ≤ maxLen) :
    Calls Try.prog 17 #[.string s, .slice ao ts.length cap, .string x, .string y] w fun e w' => SomeBool e ∧ w' = w := by
  unfold maxLen at hl
  by_cases hs0 : 1048576 < (s.size : Int)
  · go_enter Try.func17, Try.ntmps17
    go_wp2
    go_ret
    exact ⟨⟨_, rfl⟩, rfl⟩
  obtain ⟨n, hn⟩ : ∃ n, n = ts.length := ⟨_, rfl⟩
  have HN : Hid (n = ts.length) := hn
  rw [← hn] at hl ⊢
  have hd : decide (1048576 < (s.size : Int)) = false := decide_eq_false hs0
  by_cases hn0 : 1048576 < (n : Int)
  · clear hn
    go_enter Try.func17, Try.ntmps17
    go_wp2
    go_ret
    exact ⟨⟨_, rfl⟩, rfl⟩
  have hd1 : decide (1048576 < (n : Int)) = false := decide_eq_false hn0
  by_cases hn1 : 1048576 < (s.size : Int) + (n : Int)
  · clear hn
    go_enter Try.func17, Try.ntmps17
    go_wp2
    go_ret
    exact ⟨⟨_, rfl⟩, rfl⟩
  have hd2 : decide (1048576 < (s.size : Int) + (n : Int)) = false := decide_eq_false hn1
  rcases hs with rfl | ⟨b, off, rfl, hc⟩
  · simp at hn; subst hn
    clear HN
    go_enter Try.func17, Try.ntmps17
    go_wp2
    go_loop [9, 10] (fun t i => t = .int .i64 s.size ∧ i = .int .i64 0) (fun _ _ => 0)
    case atStart => exact ⟨by simp, rfl⟩
    case round =>
      obtain ⟨rfl, rfl⟩ := hrel
      by_cases hx1 : 1048576 < (x.size : Int)
      · go_wp2
        go_ret
        exact ⟨⟨_, rfl⟩, rfl⟩
      by_cases hx2 : 1048576 < (s.size : Int) + (x.size : Int)
      · go_wp2
        go_ret
        exact ⟨⟨_, rfl⟩, rfl⟩
      by_cases hy1 : 1048576 < (y.size : Int)
      · go_wp2
        go_ret
        exact ⟨⟨_, rfl⟩, rfl⟩
      by_cases hy2 : 1048576 < ((s.size : Int) + (x.size : Int)) + (y.size : Int)
      · go_wp2
        go_ret
        exact ⟨⟨_, rfl⟩, rfl⟩
      go_wp2
      go_ret
      exact ⟨⟨_, rfl⟩, rfl⟩
  · clear hn
    go_enter Try.func17, Try.ntmps17
    go_wp2
    go_loop [9, 10] (fun t i => ∃ k z : Nat, k ≤ n ∧ i = .int .i64 k ∧ t = .int .i64 (z : Int) ∧ z ≤ 1048576) (fun _ i => n - (intOf i).toNat)
    case atStart => exact ⟨0, s.size + n, Nat.zero_le _, rfl, by go_num, by omega⟩
    case round =>
      obtain ⟨k, z, hk, rfl, rfl, hz⟩ := hrel
      by_cases hlt : k < n
      · have hck := hc k (by rw [← HN.out]; exact hlt)
        generalize ts.getD k ByteArray.empty = t at hck
        clear hc
        by_cases ht : 1048576 < (t.size : Int)
        · go_wp2
          go_ret
          exact ⟨⟨_, rfl⟩, rfl⟩
        by_cases hzt : 1048576 < (z : Int) + (t.size : Int)
        · go_wp2
          go_ret
          exact ⟨⟨_, rfl⟩, rfl⟩
        · go_wp2
          go_round
          case rel => exact ⟨k + 1, z + t.size, by omega, by go_num, by go_num, by omega⟩
          case measure => simp [intOf]; omega
      · clear hc
        by_cases hx1 : 1048576 < (x.size : Int)
        · go_wp2
          go_ret
          exact ⟨⟨_, rfl⟩, rfl⟩
        by_cases hx2 : 1048576 < (z : Int) + (x.size : Int)
        · go_wp2
          go_ret
          exact ⟨⟨_, rfl⟩, rfl⟩
        by_cases hy1 : 1048576 < (y.size : Int)
        · go_wp2
          go_ret
          exact ⟨⟨_, rfl⟩, rfl⟩
        by_cases hy2 : 1048576 < ((z : Int) + (x.size : Int)) + (y.size : Int)
        · go_wp2
          go_ret
          exact ⟨⟨_, rfl⟩, rfl⟩
        go_wp2
        go_ret
        exact ⟨⟨_, rfl⟩, rfl⟩
end Go.Proofs.Qxb6603935a
