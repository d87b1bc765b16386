import Derived.Test.Qxb6603935aPlain
import Derived.Deep.LoopGhost
namespace Go.Proofs.Qxb6603935a
open Go.RowKit

/-! ### A slice of strings in memory -/
def Strs (w : World) (ao : Option Addr) (ts : List ByteArray) : Prop :=
  ts = [] ∨ ∃ b off, ao = some ⟨b, off, none⟩ ∧ ∀ k, k < ts.length → w.cell? ⟨b, off + k, none⟩ = some (.string (ts.getD k ByteArray.empty))

theorem Strs.below {w w' : World} {B : Nat} (hb : Below B w w') (hB : w.heap.size ≤ B) {ao : Option Addr} {ts : List ByteArray} (h : Strs w ao ts) : Strs w' ao ts := by
  rcases h with h | ⟨b, off, h, hc⟩
  · exact .inl h
  · exact .inr ⟨b, off, h, fun k hk => (hb.cell (p := ⟨b, off + k, none⟩) (Nat.lt_of_lt_of_le (cell_lt (hc k hk)) hB)).trans (hc k hk)⟩

def tot (c : Nat) (l : List ByteArray) : Nat := (l.map (fun t => t.size + c)).sum
theorem tot_snoc (c : Nat) (l : List ByteArray) (t : ByteArray) : tot c (l ++ [t]) = tot c l + (t.size + c) := by simp [tot]
theorem take_next (ts : List ByteArray) (k : Nat) (h : k < ts.length) : ts.take (k + 1) = ts.take k ++ [ts.getD k ByteArray.empty] := by
  rw [List.take_succ_eq_append_getElem h]; simp [h]
theorem tot_next (c : Nat) (ts : List ByteArray) (k : Nat) (h : k < ts.length) : tot c (ts.take (k + 1)) = tot c (ts.take k) + ((ts.getD k ByteArray.empty).size + c) := by
  rw [take_next ts k h, tot_snoc]

set_option maxRecDepth 100000 in
set_option maxHeartbeats 400000 in
theorem b1Size_any (s : ByteArray) (ao : Option Addr) (ts : List ByteArray) (cap : Nat) (w : World) (hs : Strs w ao ts) (hl : ts.length ≤ maxLen) :
    Calls Try.prog 8 #[.string s, .slice ao ts.length cap] w fun e w' => (∃ n : Int, e = .returned (.int .i64 n) ∧ (n = 1048577 ∨ (n = ((s.size + tot 16 ts : Nat) : Int) ∧ n ≤ 1048576))) ∧ w' = w := by
  unfold maxLen at hl
  by_cases hs0 : 1048576 < s.size
  · go_enter Try.func8, Try.ntmps8
    go_wp2
    go_ret
    exact ⟨⟨_, rfl, .inl rfl⟩, rfl⟩
  obtain ⟨n, hn⟩ : ∃ n, n = ts.length := ⟨_, rfl⟩
  have HN : Hid (n = ts.length) := hn
  rw [← hn] at hl ⊢
  have hd : decide (1048576 < (s.size : Int)) = false := decide_eq_false (by omega)
  rcases hs with rfl | ⟨b, off, rfl, hc⟩
  · simp at hn; subst hn
    clear HN
    go_enter Try.func8, Try.ntmps8
    go_wp2
    go_loop [5, 6] (fun t i => t = .int .i64 s.size ∧ i = .int .i64 0) (fun _ _ => 0)
    case atStart => exact ⟨rfl, rfl⟩
    case round =>
      obtain ⟨rfl, rfl⟩ := hrel
      go_wp2
      go_ret
      exact ⟨⟨_, rfl, .inr ⟨by simp [tot], by omega⟩⟩, rfl⟩
  · clear hn
    go_enter Try.func8, Try.ntmps8
    go_wp2
    go_loop [5, 6] (fun t i => ∃ k z : Nat, k ≤ n ∧ i = .int .i64 k ∧ t = .int .i64 (z : Int) ∧ Hid (z = s.size + tot 16 (ts.take k)) ∧ z ≤ 1048576) (fun _ i => n - (intOf i).toNat)
    case atStart => exact ⟨0, s.size, Nat.zero_le _, rfl, rfl, by unfold Hid; simp [tot], by omega⟩
    case round =>
      obtain ⟨k, z, hk, rfl, rfl, HZ, hz⟩ := hrel
      by_cases hlt : k < n
      · have hck := hc k (by rw [← HN.out]; exact hlt)
        have HT : Hid (tot 16 (ts.take (k + 1)) = tot 16 (ts.take k) + ((ts.getD k ByteArray.empty).size + 16)) := tot_next 16 ts k (by rw [← HN.out]; exact hlt)
        generalize ts.getD k ByteArray.empty = t at hck HT
        clear hc
        by_cases ht : 1048576 < (t.size : Int)
        · go_wp2
          go_ret
          exact ⟨⟨_, rfl, .inl rfl⟩, rfl⟩
        by_cases hzt : 1048576 < (z : Int) + ((t.size : Int) + 16)
        · go_wp2
          go_ret
          exact ⟨⟨_, rfl, .inl rfl⟩, rfl⟩
        · go_wp2
          go_round
          case rel => exact ⟨k + 1, z + (t.size + 16), by omega, by go_num, by go_num, by unfold Hid; rw [HT.out, HZ.out]; omega, by omega⟩
          case measure => simp [intOf]; omega
      · have hkn : k = n := by omega
        subst hkn
        go_wp2
        go_ret
        refine ⟨⟨_, rfl, .inr ⟨?_, by omega⟩⟩, rfl⟩
        rw [HZ.out, HN.out, List.take_length]; omega

/-! ### The guard laid by program: it answers some bool and writes nothing -/
def SomeBool (e : Ending) : Prop := ∃ x : Bool, e = .returned (.bool x)

set_option maxRecDepth 100000 in
set_option maxHeartbeats 400000 in
theorem zzBytes18 (s : ByteArray) (ao : Option Addr) (ts : List ByteArray) (cap : Nat) (i : Int) (w : World) (hs : Strs w ao ts) (hl : ts.length ≤ maxLen) :
    Calls Try.prog 18 #[.string s, .slice ao ts.length cap, .int .i64 i] w fun e w' => SomeBool e ∧ w' = w := by
  unfold maxLen at hl
  by_cases hs0 : 1048576 < (s.size : Int)
  · go_enter Try.func18, Try.ntmps18
    go_wp2
    go_ret
    exact ⟨⟨_, rfl⟩, rfl⟩
  obtain ⟨n, hn⟩ : ∃ n, n = ts.length := ⟨_, rfl⟩
  have HN : Hid (n = ts.length) := hn
  rw [← hn] at hl ⊢
  have hd : decide (1048576 < (s.size : Int)) = false := decide_eq_false hs0
  by_cases hn0 : 1048576 < (n : Int)
  · clear hn
    go_enter Try.func18, Try.ntmps18
    go_wp2
    go_ret
    exact ⟨⟨_, rfl⟩, rfl⟩
  have hd1 : decide (1048576 < (n : Int)) = false := decide_eq_false hn0
  by_cases hn1 : 1048576 < (s.size : Int) + (n : Int)
  · clear hn
    go_enter Try.func18, Try.ntmps18
    go_wp2
    go_ret
    exact ⟨⟨_, rfl⟩, rfl⟩
  have hd2 : decide (1048576 < (s.size : Int) + (n : Int)) = false := decide_eq_false hn1
  rcases hs with rfl | ⟨b, off, rfl, hc⟩
  · simp at hn; subst hn
    clear HN
    go_enter Try.func18, Try.ntmps18
    go_wp2
    go_loop [7, 8] (fun t i => t = .int .i64 s.size ∧ i = .int .i64 0) (fun _ _ => 0)
    case atStart => exact ⟨by simp, rfl⟩
    case round =>
      obtain ⟨rfl, rfl⟩ := hrel
      go_wp2
      go_ret
      exact ⟨⟨_, rfl⟩, rfl⟩
  · clear hn
    go_enter Try.func18, Try.ntmps18
    go_wp2
    go_loop [7, 8] (fun t i => ∃ k z : Nat, k ≤ n ∧ i = .int .i64 k ∧ t = .int .i64 (z : Int) ∧ z ≤ 1048576) (fun _ i => n - (intOf i).toNat)
    case atStart => exact ⟨0, s.size + n, Nat.zero_le _, rfl, by go_num, by omega⟩
    case round =>
      obtain ⟨k, z, hk, rfl, rfl, hz⟩ := hrel
      by_cases hlt : k < n
      · have hck := hc k (by rw [← HN.out]; exact hlt)
        generalize ts.getD k ByteArray.empty = t at hck
        clear hc
        by_cases ht : 1048576 < (t.size : Int)
        · go_wp2
          go_ret
          exact ⟨⟨_, rfl⟩, rfl⟩
        by_cases hzt : 1048576 < (z : Int) + (t.size : Int)
        · go_wp2
          go_ret
          exact ⟨⟨_, rfl⟩, rfl⟩
        · go_wp2
          go_round
          case rel => exact ⟨k + 1, z + t.size, by omega, by go_num, by go_num, by omega⟩
          case measure => simp [intOf]; omega
      · go_wp2
        go_ret
        exact ⟨⟨_, rfl⟩, rfl⟩
end Go.Proofs.Qxb6603935a
