import Derived.Test.Qxb6603997aRG
namespace Go.Proofs.Qxb6603997a
open Go.RowKit

set_option maxRecDepth 100000 in
set_option maxHeartbeats 4000000 in
theorem rows_any (h : Hd) (R : Nat → RowD) (w : World) (hok : h.ok) (ht : RowsAt w h R) (hn : h.n ≤ 1048576) (hm : ∀ k, k < h.n → (R k).v.n ≤ 1048576 ∧ ∀ j, j < (R k).v.n → ((R k).H j).n ≤ 1048576) :
    Calls Try.prog 16 #[h.val] w fun e w' => ∃ h' R', e = .returned h'.val ∧ Cp w.heap.size h h' ∧ (∀ k, k < h.n → RCp w.heap.size (R k) (R' k)) ∧ RowsAt w' h' R' ∧ Below w.heap.size w w' := by
  obtain ⟨a, n, cap⟩ := h
  obtain ⟨hz, -, -⟩ := hok
  simp only [Hd.val] at *
  rcases a with _ | ⟨b, off, sp⟩
  · obtain ⟨rfl, rfl⟩ := hz rfl
    have heq := fun w => Lib.run_eql_slice_nil (P := Try.prog) w 27 57 none 0 0 0 0 Try.underlying27
    clear ht hz hm
    go_enter Try.func16, Try.ntmps16
    go_wp2
    go_ret
    exact ⟨⟨none, 0, 0⟩, R, rfl, Cp.none _, fun k hk => absurd hk (Nat.not_lt_zero _), fun k hk => absurd hk (Nat.not_lt_zero _), Below.refl _ _⟩
  · have HT : Hid (RowsAt w ⟨some ⟨b, off, sp⟩, n, cap⟩ R) := ht
    have HM : Hid (∀ k, k < n → (R k).v.n ≤ 1048576 ∧ ∀ j, j < (R k).v.n → ((R k).H j).n ≤ 1048576) := hm
    clear ht hz hm
    have hmk := run_make_n (P := Try.prog) 41 54 _ 3 40 Try.underlying41 Try.info54 .i64 .i64 n (by omega) (by omega)
    have heq := fun w => Lib.run_eql_slice_nil (P := Try.prog) w 27 57 (some ⟨b, off, sp⟩) n cap 0 0 Try.underlying27
    go_enter Try.func16, Try.ntmps16
    go_wp2
    go_loopg [4] n (fun g i wr => ∃ (k : Nat) (f : Nat → Value) (R' : Nat → RowD), k ≤ n ∧ g = n - k ∧ i = .int .i64 k ∧ wr.rowIs w.heap.size 54 (n * 3) f ∧ RInv w.heap.size R R' f wr k ∧ Below w.heap.size w wr)
    case atStart =>
      obtain ⟨f, hf⟩ := rowIs_make w (Value.agg #[.int .i64 0, .int .i64 0, .slice none 0 0]).cells (n * 3) 54
      exact ⟨0, f, R, Nat.zero_le _, rfl, rfl, hf, fun j hj => absurd hj (Nat.not_lt_zero _), (Below.refl _ _).alloc (Nat.le_refl _) _⟩
    case round =>
      obtain ⟨k, f, R', hk, hg, rfl, hrow, HF, hbel⟩ := hrel
      by_cases hlt : k < n
      · obtain ⟨⟨b', off', he, ht⟩, hok, hto⟩ := HT.out k hlt
        cases he
        obtain ⟨c0, c1, c2⟩ := ht.below hbel
        have hbd : Below w.heap.size w wr.drew := hbel.drew
        have HC := hid (vals_any (R k).v (R k).H (R k).T wr.drew hok (hto.below hbd) (HM.out k hlt).1 (HM.out k hlt).2)
        have HS : Hid (∀ (w2 : World) (h2 : Hd) (H2 : Nat → Hd), Below wr.drew.heap.size wr.drew w2 → Cp wr.drew.heap.size (R k).v h2 → (∀ j, j < (R k).v.n → Cp wr.drew.heap.size ((R k).H j) (H2 j)) → ValsAt w2 h2 H2 (R k).T → _) :=
          fun w2 h2 H2 hb2 hcp hcps hv => rowsStep (w2 := w2) (h2 := h2) (H2 := H2) hrow.drew hbd rfl (R' := R') (fun j hj => let ⟨a, b, c⟩ := HF j hj; ⟨a, b, c.below (Below.refl _ wr).drew⟩) hb2 hcp hcps hv
        have HR : Hid (∀ w2, Below wr.drew.heap.size wr.drew w2 → w2.rowIs w.heap.size 54 (n * 3) f) := fun w2 hb2 => hrow.of_block (hb2.block _ hrow.lt)
        unfold Hd.val at c2 HC HS
        clear ht hto hok HF hbd hrow
        generalize (R k).p = rp at *
        generalize (R k).e = re at *
        go_wp2_with fail
        go_region_with (go_at_call 32; (refine HC.out.mono ?_; rintro e w2 ⟨h2, H2, rfl, hcp, hcps, hv2, hb2⟩; have d0 := cell_b hb2 c0; have d1 := cell_b hb2 c1; have d2 := cell_b hb2 c2; have hr2 := HR.out w2 hb2; have z0 := hr2.cell (i := k * 3) (by omega); have z1 := hr2.cell (i := k * 3 + 1) (by omega); have z2 := hr2.cell (i := k * 3 + 2) (by omega); have y0 := hr2.frozen (k * 3); have y1 := hr2.frozen (k * 3 + 1); have y2 := hr2.frozen (k * 3 + 2); have HST := hid (HS.out _ _ _ hb2 hcp hcps hv2); clear hcp hcps hv2 hb2 hr2))
        all_goals
          go_wp2
          go_roundg (n - (k + 1))
          case measure => omega
          case rel =>
            obtain ⟨f', R'', hr, hi, hb⟩ := HST.out
            exact ⟨k + 1, f', R'', by omega, rfl, by go_num, hr, hi, hb⟩
      · have hkn : k = n := by omega
        subst hkn
        have HF2 : Hid (RInv w.heap.size R R' f wr k) := HF
        clear HF
        go_wp2
        go_ret
        refine ⟨⟨some ⟨w.heap.size, 0, none⟩, k, k⟩, R', rfl, Cp.made _ hn, fun j hj => (HF2.out j hj).2.1.mono (by omega), fun j hj => ?_, hbel⟩
        obtain ⟨q1, q2, q3⟩ := HF2.out j hj
        have hj' : j < k := hj
        refine ⟨⟨_, 0, rfl, ?_⟩, q2.v.ok, q3⟩
        rw [Nat.zero_add]
        exact ⟨(hrow.cell (by omega)).trans (congrArg some q1.c0), (hrow.cell (by omega)).trans (congrArg some q1.c1), (hrow.cell (by omega)).trans (congrArg some q1.c2)⟩
end Go.Proofs.Qxb6603997a
