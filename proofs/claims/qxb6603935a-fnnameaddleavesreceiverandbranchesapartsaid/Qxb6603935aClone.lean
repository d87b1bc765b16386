import Derived.Test.Qxb6603935aSize
import Derived.Deep.OwnRows
namespace Go.Proofs.Qxb6603935a
open Go.RowKit

theorem Try.info9 : (Try.prog.info? 9).map (fun i => (i.zero, i.size, i.bytes)) = some (some (.string ⟨#[]⟩), 1, 16) := by kernel_rfl

theorem clone_nil (w : World) :
    Calls Try.prog 9 #[.slice none 0 0] w fun e w' => e = .returned (.slice none 0 0) ∧ w' = w := by
  have heq := fun w => Lib.run_eql_slice_nil (P := Try.prog) w 22 9 none 0 0 0 0 Try.underlying22
  go_enter Try.func9, Try.ntmps9
  go_wp2
  go_ret
  exact ⟨rfl, rfl⟩

set_option maxHeartbeats 400000 in
theorem clone_empty (a : Addr) (cap : Nat) (w : World) :
    Calls Try.prog 9 #[.slice (some a) 0 cap] w fun e w' => e = .returned (.slice (some ⟨w.heap.size, 0, none⟩) 0 0) ∧ Below w.heap.size w w' := by
  have hmk := run_make_row' (P := Try.prog) 22 9 (.string ⟨#[]⟩) 16 Try.underlying22 Try.info9 rfl .i64 .i64 0 (by omega) (by omega)
  simp only [Int.natCast_zero] at hmk
  have heq := fun w => Lib.run_eql_slice_nil (P := Try.prog) w 22 9 (some a) 0 cap 0 0 Try.underlying22
  go_enter Try.func9, Try.ntmps9
  go_wp2
  go_loopg [4] 0 (fun g i wr => i = .int .i64 0 ∧ Below w.heap.size w wr)
  case atStart => exact ⟨rfl, (Below.refl _ _).alloc (Nat.le_refl _) _⟩
  case round =>
    obtain ⟨rfl, hbel⟩ := hrel
    go_wp2
    go_ret
    exact ⟨rfl, hbel⟩

set_option maxHeartbeats 400000 in
theorem clone_full (b off : Nat) (ts : List ByteArray) (cap : Nat) (w : World) (hs : ∀ k, k < ts.length → w.cell? ⟨b, off + k, none⟩ = some (.string (ts.getD k ByteArray.empty))) (hl : ts.length ≤ 1048576) :
    Calls Try.prog 9 #[.slice (some ⟨b, off, none⟩) ts.length cap] w fun e w' => e = .returned (.slice (some ⟨w.heap.size, 0, none⟩) ts.length ts.length) ∧ Strs w' (some ⟨w.heap.size, 0, none⟩) ts ∧ Below w.heap.size w w' := by
  obtain ⟨n, hn⟩ : ∃ n, n = ts.length := ⟨_, rfl⟩
  have HN : Hid (n = ts.length) := hn
  rw [← hn] at hl ⊢
  clear hn
  have HS : Hid (∀ k, k < ts.length → w.cell? ⟨b, off + k, none⟩ = some (.string (ts.getD k ByteArray.empty))) := hs
  clear hs
  have hmk := run_make_row' (P := Try.prog) 22 9 (.string ⟨#[]⟩) 16 Try.underlying22 Try.info9 rfl .i64 .i64 n (by omega) (by omega)
  have heq := fun w => Lib.run_eql_slice_nil (P := Try.prog) w 22 9 (some ⟨b, off, none⟩) n cap 0 0 Try.underlying22
  go_enter Try.func9, Try.ntmps9
  go_wp2
  go_loopg [4] n (fun g i wr => ∃ k : Nat, k ≤ n ∧ g = n - k ∧ i = .int .i64 k ∧ wr.rowIs w.heap.size 9 n (fun j => if j < k then .string (ts.getD j ByteArray.empty) else .string ⟨#[]⟩) ∧ Below w.heap.size w wr)
  case atStart =>
    refine ⟨0, Nat.zero_le _, rfl, rfl, ?_, (Below.refl _ _).alloc (Nat.le_refl _) _⟩
    exact (World.rowIs_made w (.string ⟨#[]⟩) n 9).congr (fun i _ => by simp)
  case round =>
    obtain ⟨k, hk, hg, rfl, hrow, hbel⟩ := hrel
    by_cases hlt : k < n
    · have hck := HS.out k (by rw [← HN.out]; exact hlt)
      have hck2 := (hbel.cell (p := ⟨b, off + k, none⟩) (cell_lt hck)).trans hck
      have hfz := hrow.frozen k
      have hold := hrow.cell hlt
      rw [if_neg (by omega)] at hold
      have HR : Hid ((wr.setCell ⟨w.heap.size, k, none⟩ (.string (ts.getD k ByteArray.empty))).rowIs w.heap.size 9 n (fun j => if j < k + 1 then .string (ts.getD j ByteArray.empty) else .string ⟨#[]⟩)) :=
        (hrow.set k _).congr (fun j _ => by
          by_cases h1 : j = k
          · subst h1; simp
          · by_cases h2 : j < k
            · simp [h1, h2, show j < k + 1 by omega]
            · simp [h1, h2, show ¬ j < k + 1 by omega])
      generalize ts.getD k ByteArray.empty = t at hck2 HR
      clear hck hrow
      go_wp2
      go_roundg (n - (k + 1))
      case measure => omega
      case rel => exact ⟨k + 1, by omega, rfl, by go_num, HR.out, hbel.setCell (Nat.le_refl _) _⟩
    · have hkn : k = n := by omega
      subst hkn
      go_wp2
      go_ret
      refine ⟨rfl, ?_, hbel⟩
      exact .inr ⟨_, _, rfl, fun j hj => by rw [Nat.zero_add, hrow.cell (by rw [HN.out]; exact hj), if_pos (by rw [HN.out]; exact hj)]⟩

/-- b1Clone. -/
theorem clone_any (ao : Option Addr) (ts : List ByteArray) (cap : Nat) (w : World) (hs : Strs w ao ts) (hl : ts.length ≤ 1048576) (hnil : ao = none → cap = 0 ∧ ts = []) :
    Calls Try.prog 9 #[.slice ao ts.length cap] w fun e w' => ∃ ao' cap', e = .returned (.slice ao' ts.length cap') ∧ Strs w' ao' ts ∧ Below w.heap.size w w' := by
  match ao, hnil, hs with
  | none, hnil, hs =>
    obtain ⟨rfl, rfl⟩ := hnil rfl
    refine (clone_nil w).mono ?_
    rintro e w' ⟨rfl, rfl⟩
    exact ⟨none, 0, rfl, .inl rfl, Below.refl _ _⟩
  | some a, _, .inl h0 =>
    subst h0
    refine (clone_empty a cap w).mono ?_
    rintro e w' ⟨rfl, hb⟩
    exact ⟨_, 0, rfl, .inl rfl, hb⟩
  | some a, _, .inr ⟨b, off, h, hc⟩ =>
    obtain rfl : a = ⟨b, off, none⟩ := by simpa using h
    refine (clone_full b off ts cap w hc hl).mono ?_
    rintro e w' ⟨rfl, hst, hb⟩
    exact ⟨_, _, rfl, hst, hb⟩
end Go.Proofs.Qxb6603935a
