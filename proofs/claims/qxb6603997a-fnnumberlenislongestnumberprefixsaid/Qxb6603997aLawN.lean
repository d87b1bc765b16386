import Derived.Test.Qxb6603997aNumL
import Derived.Test.Qxb6603997aNumG
namespace Go.Proofs.Qxb6603997a
open Go.RowKit

theorem zzBytes5_yes (s : ByteArray) (w : World) (h : ¬ 1048576 < (s.size : Int)) :
    Calls Try.prog 5 #[.string s] w fun e w' => e = .returned (.bool true) ∧ w' = w := by
  go_enter Try.func5, Try.ntmps5
  go_wp2
  go_ret
  exact ⟨rfl, rfl⟩
theorem zzBytes5_no (s : ByteArray) (w : World) (h : 1048576 < (s.size : Int)) :
    Calls Try.prog 5 #[.string s] w fun e w' => e = .returned (.bool false) ∧ w' = w := by
  go_enter Try.func5, Try.ntmps5
  go_wp2
  go_ret
  exact ⟨rfl, rfl⟩
theorem zzNumberLen_any (s : ByteArray) (n : Nat) (hn : numA s.data.toList = n) (w : World) (hs : s.size ≤ 2097152) :
    Calls Try.prog 6 #[.string s] w fun e w' => e = .returned (.int .i64 (n : Int)) ∧ w' = w := by
  have h := numberLen_any s w hs
  rw [hn] at h
  clear hn
  go_enter Try.func6, Try.ntmps6
  go_wp2_with fail
  refine h.mono ?_
  rintro e w' ⟨rfl, rfl⟩
  go_wp2
  go_ret
  exact ⟨rfl, rfl⟩

theorem lawN_any (s : ByteArray) (w : World) :
    Calls Try.prog 3 #[.string s] w fun e w' => e = .returned (.bool true) ∧ Below w.heap.size w w' := by
  by_cases h : 1048576 < (s.size : Int)
  · have hz := zzBytes5_no s w h
    go_enter Try.func3, Try.ntmps3
    go_wp2_with fail
    refine hz.mono ?_
    rintro e w' ⟨rfl, rfl⟩
    go_wp2
    go_ret
    exact ⟨rfl, Below.refl _ _⟩
  · have hz := zzBytes5_yes s w h
    have hn := zzNumberLen_any s (auto 1 s.data.toList 0 0) (num_auto _) w (by omega)
    have hl := longest_any s w (by omega)
    generalize auto 1 s.data.toList 0 0 = n at hn hl
    go_enter Try.func3, Try.ntmps3
    go_wp2_with fail
    refine hz.mono ?_
    rintro e wx ⟨rfl, hw⟩
    rw [hw]
    clear hw hz wx
    go_wp2_with fail
    refine hn.mono ?_
    rintro e wx ⟨rfl, hw⟩
    rw [hw]
    clear hw hn wx
    go_wp2_with fail
    refine hl.mono ?_
    rintro e wx ⟨rfl, hw⟩
    rw [hw]
    clear hw hl wx
    go_wp2
    go_ret
    exact ⟨by simp, Below.refl _ _⟩
end Go.Proofs.Qxb6603997a
