import Derived.Test.Qxb6603997aRC
namespace Go.Proofs.Qxb6603997a
open Go.RowKit

theorem Try.info3 : (Try.prog.info? 3).map (fun i => (i.zero, i.size, i.bytes)) = some (some (.int .i64 0), 1, 8) := by kernel_rfl
theorem Try.info9 : (Try.prog.info? 9).map (fun i => (i.zero, i.size, i.bytes)) = some (some (.string ⟨#[]⟩), 1, 16) := by kernel_rfl

set_option maxHeartbeats 1000000 in
theorem cloneInts_any (h : Hd) (T : Nat → Int) (w : World) (hok : h.ok) (ht : IntsAt w h T) (hn : h.n ≤ 1048576) :
    Calls Try.prog 11 #[h.val] w fun e w' => ∃ h', e = .returned h'.val ∧ Cp w.heap.size h h' ∧ IntsAt w' h' T ∧ Below w.heap.size w w' := by
  obtain ⟨a, n, cap⟩ := h
  obtain ⟨hz, -, -⟩ := hok
  simp only [Hd.val] at *
  rcases a with _ | ⟨b, off, sp⟩
  · obtain ⟨rfl, rfl⟩ := hz rfl
    have heq := fun w => Lib.run_eql_slice_nil (P := Try.prog) w 25 3 none 0 0 0 0 Try.underlying25
    clear ht hz
    go_enter Try.func11, Try.ntmps11
    go_wp2
    go_ret
    exact ⟨⟨none, 0, 0⟩, rfl, Cp.none _, fun k hk => absurd hk (Nat.not_lt_zero _), Below.refl _ _⟩
  · have HT : Hid (IntsAt w ⟨some ⟨b, off, sp⟩, n, cap⟩ T) := ht
    clear ht hz
    have hmk := run_make_n (P := Try.prog) 25 3 _ 1 8 Try.underlying25 Try.info3 .i64 .i64 n (by omega) (by omega)
    rw [Nat.mul_one] at hmk
    have heq := fun w => Lib.run_eql_slice_nil (P := Try.prog) w 25 3 (some ⟨b, off, sp⟩) n cap 0 0 Try.underlying25
    go_enter Try.func11, Try.ntmps11
    go_wp2
    go_loopg [4] n (fun g i wr => ∃ (k : Nat) (f : Nat → Value), k ≤ n ∧ g = n - k ∧ i = .int .i64 k ∧ wr.rowIs w.heap.size 3 n f ∧ Hid (∀ j, j < k → f j = Value.int .i64 (T j)) ∧ Below w.heap.size w wr)
    case atStart =>
      obtain ⟨f, hf⟩ := rowIs_make w (.int .i64 0 : Value).cells n 3
      exact ⟨0, f, Nat.zero_le _, rfl, rfl, hf, fun j hj => absurd hj (Nat.not_lt_zero _), (Below.refl _ _).alloc (Nat.le_refl _) _⟩
    case round =>
      obtain ⟨k, f, hk, hg, rfl, hrow, HF, hbel⟩ := hrel
      by_cases hlt : k < n
      · obtain ⟨b', off', he, ht⟩ := HT.out k hlt
        cases he
        have c0 := cell_b hbel ht
        rw [Nat.mul_one] at c0
        have h0 := hrow.cell hlt
        have f0 := hrow.frozen k
        have HR : Hid (World.rowIs _ w.heap.size 3 n _) := hrow.set k (Value.int .i64 (T k))
        have HN : Hid (∀ j, j < k + 1 → (fun j => if j = k then Value.int .i64 (T k) else f j) j = Value.int .i64 (T j)) := fun j hj => by
          by_cases e : j = k
          · subst e; exact if_pos rfl
          · show (if j = k then _ else f j) = _; rw [if_neg e]; exact HF.out j (by omega)
        clear ht hrow HF
        generalize T k = t at *
        go_wp2
        go_roundg (n - (k + 1))
        case measure => omega
        case rel => exact ⟨k + 1, _, by omega, rfl, by go_num, HR.out, HN.out, hbel.setCell (Nat.le_refl _) _⟩
      · have hkn : k = n := by omega
        subst hkn
        go_wp2
        go_ret
        exact ⟨⟨some ⟨w.heap.size, 0, none⟩, k, k⟩, rfl, Cp.made _ hn, fun j hj => ⟨_, 0, rfl, by rw [Nat.zero_add, Nat.mul_one]; exact (hrow.cell hj).trans (congrArg some (HF.out j hj))⟩, hbel⟩

set_option maxHeartbeats 1000000 in
theorem cloneStrs_any (h : Hd) (T : Nat → ByteArray) (w : World) (hok : h.ok) (ht : StrsAt w h T) (hn : h.n ≤ 1048576) :
    Calls Try.prog 12 #[h.val] w fun e w' => ∃ h', e = .returned h'.val ∧ Cp w.heap.size h h' ∧ StrsAt w' h' T ∧ Below w.heap.size w w' := by
  obtain ⟨a, n, cap⟩ := h
  obtain ⟨hz, -, -⟩ := hok
  simp only [Hd.val] at *
  rcases a with _ | ⟨b, off, sp⟩
  · obtain ⟨rfl, rfl⟩ := hz rfl
    have heq := fun w => Lib.run_eql_slice_nil (P := Try.prog) w 26 9 none 0 0 0 0 Try.underlying26
    clear ht hz
    go_enter Try.func12, Try.ntmps12
    go_wp2
    go_ret
    exact ⟨⟨none, 0, 0⟩, rfl, Cp.none _, fun k hk => absurd hk (Nat.not_lt_zero _), Below.refl _ _⟩
  · have HT : Hid (StrsAt w ⟨some ⟨b, off, sp⟩, n, cap⟩ T) := ht
    clear ht hz
    have hmk := run_make_n (P := Try.prog) 26 9 _ 1 16 Try.underlying26 Try.info9 .i64 .i64 n (by omega) (by omega)
    rw [Nat.mul_one] at hmk
    have heq := fun w => Lib.run_eql_slice_nil (P := Try.prog) w 26 9 (some ⟨b, off, sp⟩) n cap 0 0 Try.underlying26
    go_enter Try.func12, Try.ntmps12
    go_wp2
    go_loopg [4] n (fun g i wr => ∃ (k : Nat) (f : Nat → Value), k ≤ n ∧ g = n - k ∧ i = .int .i64 k ∧ wr.rowIs w.heap.size 9 n f ∧ Hid (∀ j, j < k → f j = Value.string (T j)) ∧ Below w.heap.size w wr)
    case atStart =>
      obtain ⟨f, hf⟩ := rowIs_make w (.string ⟨#[]⟩ : Value).cells n 9
      exact ⟨0, f, Nat.zero_le _, rfl, rfl, hf, fun j hj => absurd hj (Nat.not_lt_zero _), (Below.refl _ _).alloc (Nat.le_refl _) _⟩
    case round =>
      obtain ⟨k, f, hk, hg, rfl, hrow, HF, hbel⟩ := hrel
      by_cases hlt : k < n
      · obtain ⟨b', off', he, ht⟩ := HT.out k hlt
        cases he
        have c0 := cell_b hbel ht
        rw [Nat.mul_one] at c0
        have h0 := hrow.cell hlt
        have f0 := hrow.frozen k
        have HR : Hid (World.rowIs _ w.heap.size 9 n _) := hrow.set k (Value.string (T k))
        have HN : Hid (∀ j, j < k + 1 → (fun j => if j = k then Value.string (T k) else f j) j = Value.string (T j)) := fun j hj => by
          by_cases e : j = k
          · subst e; exact if_pos rfl
          · show (if j = k then _ else f j) = _; rw [if_neg e]; exact HF.out j (by omega)
        clear ht hrow HF
        generalize T k = t at *
        go_wp2
        go_roundg (n - (k + 1))
        case measure => omega
        case rel => exact ⟨k + 1, _, by omega, rfl, by go_num, HR.out, HN.out, hbel.setCell (Nat.le_refl _) _⟩
      · have hkn : k = n := by omega
        subst hkn
        go_wp2
        go_ret
        exact ⟨⟨some ⟨w.heap.size, 0, none⟩, k, k⟩, rfl, Cp.made _ hn, fun j hj => ⟨_, 0, rfl, by rw [Nat.zero_add, Nat.mul_one]; exact (hrow.cell hj).trans (congrArg some (HF.out j hj))⟩, hbel⟩
end Go.Proofs.Qxb6603997a
