import Derived.Test.Qxb6604309aPlain
import Derived.RegionTactic
import Derived.BigRegion
import Derived.Deep.RegionWith
import Derived.Deep.LoopGhost
namespace Go.Proofs.Qxb6604309a
open Go.RowKit

theorem ret_bool {a b : Bool} (h : a = b) : Ending.returned (.bool a) = .returned (.bool b) := by rw [h]
theorem ret_int {k : IntKind} {a b : Int} (h : a = b) : Ending.returned (.int k a) = .returned (.int k b) := by rw [h]

/-! ### figure.n, figure.digit -/
theorem n_any (a b : ByteArray) (p q : Int) (w : World) (_h : a.size + b.size ≤ 4194304) :
    Calls Try.prog 19 #[.agg #[.string a, .string b, .int .i64 p, .int .i64 q]] w fun e w' => e = .returned (.int .i64 ((a.size : Int) + (b.size : Int))) ∧ w' = w.alloc (.cells #[.string a, .string b, .int .i64 p, .int .i64 q] 31) := by
  go_enter Try.func19, Try.ntmps19
  go_wp2
  go_ret
  exact ⟨rfl, rfl⟩

theorem dgt_left (a b : ByteArray) (i : Nat) (h : i < a.size) : dgt (a.data.toList ++ b.data.toList) (i : Int) = (a[i].toNat : Int) - 48 := by
  unfold dgt
  rw [if_pos ⟨by omega, by rw [List.length_append, size_list, size_list]; omega⟩]
  rw [Int.toNat_natCast, List.getD_eq_getElem?_getD, List.getElem?_append_left (by rw [size_list]; exact h), List.getElem?_eq_getElem (by rw [size_list]; exact h)]
  rfl
theorem dgt_right (a b : ByteArray) (i : Nat) (h : i < b.size) : dgt (a.data.toList ++ b.data.toList) ((a.size : Int) + (i : Int)) = (b[i].toNat : Int) - 48 := by
  unfold dgt
  rw [if_pos ⟨by omega, by rw [List.length_append, size_list, size_list]; omega⟩]
  rw [show ((a.size : Int) + (i : Int)).toNat = a.size + i by omega, List.getD_eq_getElem?_getD, List.getElem?_append_right (by rw [size_list]; omega), size_list, Nat.add_sub_cancel_left, List.getElem?_eq_getElem (by rw [size_list]; exact h)]
  rfl
theorem dgt_out (a b : ByteArray) (k : Int) (h : k < 0 ∨ (a.size : Int) + (b.size : Int) ≤ k) : dgt (a.data.toList ++ b.data.toList) k = 0 := by
  unfold dgt
  rw [if_neg]
  rw [List.length_append, size_list, size_list]
  omega
theorem AllD.at {a : ByteArray} (h : AllD a.data.toList) (i : Nat) (hi : i < a.size) : (48 : Int) ≤ (a[i].toNat : Int) ∧ (a[i].toNat : Int) ≤ 57 := by
  have := h a[i] (by have := List.getElem_mem (l := a.data.toList) (n := i) (by rw [size_list]; exact hi); exact this)
  omega

set_option maxHeartbeats 400000 in
theorem digit_any (a b : ByteArray) (p q k : Int) (w : World) (h : a.size + b.size ≤ 4194304) (ha : AllD a.data.toList) (hb : AllD b.data.toList) :
    Calls Try.prog 20 #[.agg #[.string a, .string b, .int .i64 p, .int .i64 q], .int .i64 k] w fun e w' => e = .returned (.int .i64 (dgt (a.data.toList ++ b.data.toList) k)) ∧ Below w.heap.size w w' := by
  by_cases h0 : k < 0
  · have HE : Hid (0 = dgt (a.data.toList ++ b.data.toList) k) := (dgt_out a b k (.inl h0)).symm
    clear ha hb
    go_enter Try.func20, Try.ntmps20
    go_wp2
    go_ret
    exact ⟨ret_int HE.out, (Below.refl _ _).alloc (Nat.le_refl _) _⟩
  have hd0 : decide (k < 0) = false := decide_eq_false h0
  by_cases h1 : (a.size : Int) + (b.size : Int) ≤ k
  · have HE : Hid (0 = dgt (a.data.toList ++ b.data.toList) k) := (dgt_out a b k (.inr h1)).symm
    clear ha hb
    go_enter Try.func20, Try.ntmps20
    go_wp2_with (go_at_call 19; refine (n_any a b p q _ h).mono ?_; rintro e w' ⟨rfl, rfl⟩)
    go_ret
    exact ⟨ret_int HE.out, ((Below.refl _ _).alloc (Nat.le_refl _) _).alloc (by simp) _⟩
  have hd1 : decide ((a.size : Int) + (b.size : Int) ≤ k) = false := decide_eq_false h1
  obtain ⟨i, rfl⟩ := Int.eq_ofNat_of_zero_le (show 0 ≤ k by omega)
  by_cases h2 : i < a.size
  · have hh := ha.at i h2
    have HE : Hid ((a[i].toNat : Int) - 48 = dgt (a.data.toList ++ b.data.toList) i) := (dgt_left a b i h2).symm
    obtain ⟨h48, h57⟩ := hh
    clear ha hb
    go_enter Try.func20, Try.ntmps20
    go_wp2_with (go_at_call 19; refine (n_any a b p q _ h).mono ?_; rintro e w' ⟨rfl, rfl⟩)
    go_ret
    exact ⟨ret_int HE.out, ((Below.refl _ _).alloc (Nat.le_refl _) _).alloc (by simp) _⟩
  · obtain ⟨j, rfl⟩ : ∃ j, i = a.size + j := ⟨i - a.size, by omega⟩
    have hj : j < b.size := by omega
    obtain ⟨h48, h57⟩ := hb.at j hj
    have HE : Hid ((b[j].toNat : Int) - 48 = dgt (a.data.toList ++ b.data.toList) ((a.size + j : Nat) : Int)) := by
      have := dgt_right a b j hj
      unfold Hid
      rw [Int.natCast_add]
      exact this.symm
    clear ha hb
    go_enter Try.func20, Try.ntmps20
    go_wp2_with (go_at_call 19; refine (n_any a b p q _ h).mono ?_; rintro e w' ⟨rfl, rfl⟩)
    go_ret
    exact ⟨ret_int HE.out, ((Below.refl _ _).alloc (Nat.le_refl _) _).alloc (by simp) _⟩
end Go.Proofs.Qxb6604309a
