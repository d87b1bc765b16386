import Derived.Test.Qxb6603997aRE
namespace Go.Proofs.Qxb6603997a
open Go.RowKit

theorem Cp.mono {B B' : Nat} {h h' : Hd} (k : Cp B h h') (hB : B' ≤ B) : Cp B' h h' := ⟨k.n, k.cap, k.nil, k.new.mono fun _ hb => Nat.le_trans hB hb, k.ok⟩
theorem Try.info24 : (Try.prog.info? 24).map (fun i => (i.zero, i.size, i.bytes)) = some (some (.slice none 0 0), 1, 24) := by kernel_rfl
theorem Try.info36 : (Try.prog.info? 36).map (fun i => (i.zero, i.size, i.bytes)) = some (some (.slice none 0 0), 1, 24) := by kernel_rfl

set_option maxHeartbeats 1000000 in
theorem cloneVals_any (h : Hd) (H : Nat → Hd) (T : Nat → Nat → Tok) (w : World) (hok : h.ok) (ht : ValsAt w h H T) (hn : h.n ≤ 1048576) (hm : ∀ k, k < h.n → (H k).n ≤ 1048576) :
    Calls Try.prog 30 #[h.val] w fun e w' => ∃ h' H', e = .returned h'.val ∧ Cp w.heap.size h h' ∧ (∀ k, k < h.n → Cp w.heap.size (H k) (H' k)) ∧ ValsAt w' h' H' T ∧ Below w.heap.size w w' := by
  obtain ⟨a, n, cap⟩ := h
  obtain ⟨hz, -, -⟩ := hok
  simp only [Hd.val] at *
  rcases a with _ | ⟨b, off, sp⟩
  · obtain ⟨rfl, rfl⟩ := hz rfl
    have heq := fun w => Lib.run_eql_slice_nil (P := Try.prog) w 55 24 none 0 0 0 0 Try.underlying55
    clear ht hz hm
    go_enter Try.func30, Try.ntmps30
    go_wp2
    go_ret
    exact ⟨⟨none, 0, 0⟩, H, rfl, Cp.none _, fun k hk => absurd hk (Nat.not_lt_zero _), fun k hk => absurd hk (Nat.not_lt_zero _), Below.refl _ _⟩
  · have HT : Hid (ValsAt w ⟨some ⟨b, off, sp⟩, n, cap⟩ H T) := ht
    have HM : Hid (∀ k, k < n → (H k).n ≤ 1048576) := hm
    clear ht hz hm
    have hmk := run_make_n (P := Try.prog) 55 24 _ 1 24 Try.underlying55 Try.info24 .i64 .i64 n (by omega) (by omega)
    rw [Nat.mul_one] at hmk
    have heq := fun w => Lib.run_eql_slice_nil (P := Try.prog) w 55 24 (some ⟨b, off, sp⟩) n cap 0 0 Try.underlying55
    go_enter Try.func30, Try.ntmps30
    go_wp2
    go_loopg [4] n (fun g i wr => ∃ (k : Nat) (f : Nat → Value) (H' : Nat → Hd), k ≤ n ∧ g = n - k ∧ i = .int .i64 k ∧ wr.rowIs w.heap.size 24 n f ∧ Hid (∀ j, j < k → f j = (H' j).val ∧ Cp (w.heap.size + 1) (H j) (H' j) ∧ ToksAt wr (H' j) (T j)) ∧ Below w.heap.size w wr)
    case atStart =>
      obtain ⟨f, hf⟩ := rowIs_make w (Value.slice none 0 0).cells n 24
      exact ⟨0, f, H, Nat.zero_le _, rfl, rfl, hf, fun j hj => absurd hj (Nat.not_lt_zero _), (Below.refl _ _).alloc (Nat.le_refl _) _⟩
    case round =>
      obtain ⟨k, f, H', hk, hg, rfl, hrow, HF, hbel⟩ := hrel
      by_cases hlt : k < n
      · obtain ⟨⟨b', off', he, ht⟩, hok, hto⟩ := HT.out k hlt
        cases he
        have c0 := cell_b hbel ht
        rw [Nat.mul_one] at c0
        have HC := cloneToks_any (H k) (T k) wr hok (hto.below hbel) (HM.out k hlt)
        unfold Hd.val at c0 HC
        clear ht hto hok
        go_wp2_with fail
        refine HC.mono ?_
        rintro e w2 ⟨h2, rfl, hcp, ht2, hb2⟩
        have hlw := hrow.lt
        have hrow2 : w2.rowIs w.heap.size 24 n f := hrow.of_block (hb2.block _ hlw)
        have hbel2 : Below w.heap.size w w2 := hbel.trans (hb2.mono hbel.size)
        have HR : Hid (World.rowIs _ w.heap.size 24 n _) := hrow2.set k h2.val
        have HK : Hid (Keep (fun b => w.heap.size + 1 ≤ b) wr (w2.setCell ⟨w.heap.size, k, none⟩ h2.val)) := (Below.keep hb2 _).set (fun b hb => by omega) _ _
        have HK2 : Hid (Keep (fun b => w.heap.size + 1 ≤ b) w2 (w2.setCell ⟨w.heap.size, k, none⟩ h2.val)) := (Keep.refl _ _).set (fun b hb => by omega) _ _
        have HN : Hid (∀ j, j < k + 1 → (fun j => if j = k then h2.val else f j) j = ((fun j => if j = k then h2 else H' j) j).val ∧ Cp (w.heap.size + 1) (H j) ((fun j => if j = k then h2 else H' j) j) ∧ ToksAt (w2.setCell ⟨w.heap.size, k, none⟩ h2.val) ((fun j => if j = k then h2 else H' j) j) (T j)) := fun j hj => by
          by_cases e : j = k
          · subst e
            have hc2 : Cp (w.heap.size + 1) (H j) h2 := hcp.mono (by omega)
            exact ⟨by simp only [if_true], by simp only [if_true]; exact hc2, by simp only [if_true]; exact ht2.keep HK2.out hc2.new⟩
          · simp only [if_neg e]
            obtain ⟨q1, q2, q3⟩ := HF.out j (by omega)
            exact ⟨q1, q2, q3.keep HK.out q2.new⟩
        have h0 := hrow2.cell hlt
        have f0 := hrow2.frozen k
        unfold Hd.val at HR HN HK
        clear hcp ht2 hb2 hrow2 hrow HF HC hbel c0 HK HK2
        go_wp2
        go_roundg (n - (k + 1))
        case measure => omega
        case rel => exact ⟨k + 1, _, _, by omega, rfl, by go_num, HR.out, HN.out, hbel2.setCell (Nat.le_refl _) _⟩
      · have hkn : k = n := by omega
        subst hkn
        go_wp2
        go_ret
        refine ⟨⟨some ⟨w.heap.size, 0, none⟩, k, k⟩, H', rfl, Cp.made _ hn, fun j hj => (HF.out j hj).2.1.mono (by omega), fun j hj => ?_, hbel⟩
        obtain ⟨q1, q2, q3⟩ := HF.out j hj
        exact ⟨⟨_, 0, rfl, by rw [Nat.zero_add, Nat.mul_one]; exact (hrow.cell hj).trans (congrArg some q1)⟩, q2.ok, q3⟩

set_option maxHeartbeats 1000000 in
theorem vals_any (h : Hd) (H : Nat → Hd) (T : Nat → Nat → Tok) (w : World) (hok : h.ok) (ht : ValsAt w h H T) (hn : h.n ≤ 1048576) (hm : ∀ k, k < h.n → (H k).n ≤ 1048576) :
    Calls Try.prog 32 #[h.val] w fun e w' => ∃ h' H', e = .returned h'.val ∧ Cp w.heap.size h h' ∧ (∀ k, k < h.n → Cp w.heap.size (H k) (H' k)) ∧ ValsAt w' h' H' T ∧ Below w.heap.size w w' := by
  obtain ⟨a, n, cap⟩ := h
  obtain ⟨hz, -, -⟩ := hok
  simp only [Hd.val] at *
  rcases a with _ | ⟨b, off, sp⟩
  · obtain ⟨rfl, rfl⟩ := hz rfl
    have heq := fun w => Lib.run_eql_slice_nil (P := Try.prog) w 55 24 none 0 0 0 0 Try.underlying55
    clear ht hz hm
    go_enter Try.func32, Try.ntmps32
    go_wp2
    go_ret
    exact ⟨⟨none, 0, 0⟩, H, rfl, Cp.none _, fun k hk => absurd hk (Nat.not_lt_zero _), fun k hk => absurd hk (Nat.not_lt_zero _), Below.refl _ _⟩
  · have HT : Hid (ValsAt w ⟨some ⟨b, off, sp⟩, n, cap⟩ H T) := ht
    have HM : Hid (∀ k, k < n → (H k).n ≤ 1048576) := hm
    clear ht hz hm
    have hmk := run_make_n (P := Try.prog) 52 36 _ 1 24 Try.underlying52 Try.info36 .i64 .i64 n (by omega) (by omega)
    rw [Nat.mul_one] at hmk
    have heq := fun w => Lib.run_eql_slice_nil (P := Try.prog) w 55 24 (some ⟨b, off, sp⟩) n cap 0 0 Try.underlying55
    go_enter Try.func32, Try.ntmps32
    go_wp2
    go_loopg [4] n (fun g i wr => ∃ (k : Nat) (f : Nat → Value) (H' : Nat → Hd), k ≤ n ∧ g = n - k ∧ i = .int .i64 k ∧ wr.rowIs w.heap.size 36 n f ∧ Hid (∀ j, j < k → f j = (H' j).val ∧ Cp (w.heap.size + 1) (H j) (H' j) ∧ ToksAt wr (H' j) (T j)) ∧ Below w.heap.size w wr)
    case atStart =>
      obtain ⟨f, hf⟩ := rowIs_make w (Value.slice none 0 0).cells n 36
      exact ⟨0, f, H, Nat.zero_le _, rfl, rfl, hf, fun j hj => absurd hj (Nat.not_lt_zero _), (Below.refl _ _).alloc (Nat.le_refl _) _⟩
    case round =>
      obtain ⟨k, f, H', hk, hg, rfl, hrow, HF, hbel⟩ := hrel
      by_cases hlt : k < n
      · obtain ⟨⟨b', off', he, ht⟩, hok, hto⟩ := HT.out k hlt
        cases he
        have c0 := cell_b hbel ht
        rw [Nat.mul_one] at c0
        have HC := toks_any (H k) (T k) wr hok (hto.below hbel) (HM.out k hlt)
        unfold Hd.val at c0 HC
        clear ht hto hok
        go_wp2_with fail
        refine HC.mono ?_
        rintro e w2 ⟨h2, rfl, hcp, ht2, hb2⟩
        have hlw := hrow.lt
        have hrow2 : w2.rowIs w.heap.size 36 n f := hrow.of_block (hb2.block _ hlw)
        have hbel2 : Below w.heap.size w w2 := hbel.trans (hb2.mono hbel.size)
        have HR : Hid (World.rowIs _ w.heap.size 36 n _) := hrow2.set k h2.val
        have HK : Hid (Keep (fun b => w.heap.size + 1 ≤ b) wr (w2.setCell ⟨w.heap.size, k, none⟩ h2.val)) := (Below.keep hb2 _).set (fun b hb => by omega) _ _
        have HK2 : Hid (Keep (fun b => w.heap.size + 1 ≤ b) w2 (w2.setCell ⟨w.heap.size, k, none⟩ h2.val)) := (Keep.refl _ _).set (fun b hb => by omega) _ _
        have HN : Hid (∀ j, j < k + 1 → (fun j => if j = k then h2.val else f j) j = ((fun j => if j = k then h2 else H' j) j).val ∧ Cp (w.heap.size + 1) (H j) ((fun j => if j = k then h2 else H' j) j) ∧ ToksAt (w2.setCell ⟨w.heap.size, k, none⟩ h2.val) ((fun j => if j = k then h2 else H' j) j) (T j)) := fun j hj => by
          by_cases e : j = k
          · subst e
            have hc2 : Cp (w.heap.size + 1) (H j) h2 := hcp.mono (by omega)
            exact ⟨by simp only [if_true], by simp only [if_true]; exact hc2, by simp only [if_true]; exact ht2.keep HK2.out hc2.new⟩
          · simp only [if_neg e]
            obtain ⟨q1, q2, q3⟩ := HF.out j (by omega)
            exact ⟨q1, q2, q3.keep HK.out q2.new⟩
        have h0 := hrow2.cell hlt
        have f0 := hrow2.frozen k
        unfold Hd.val at HR HN HK
        clear hcp ht2 hb2 hrow2 hrow HF HC hbel c0 HK HK2
        go_wp2
        go_roundg (n - (k + 1))
        case measure => omega
        case rel => exact ⟨k + 1, _, _, by omega, rfl, by go_num, HR.out, HN.out, hbel2.setCell (Nat.le_refl _) _⟩
      · have hkn : k = n := by omega
        subst hkn
        go_wp2
        go_ret
        refine ⟨⟨some ⟨w.heap.size, 0, none⟩, k, k⟩, H', rfl, Cp.made _ hn, fun j hj => (HF.out j hj).2.1.mono (by omega), fun j hj => ?_, hbel⟩
        obtain ⟨q1, q2, q3⟩ := HF.out j hj
        exact ⟨⟨_, 0, rfl, by rw [Nat.zero_add, Nat.mul_one]; exact (hrow.cell hj).trans (congrArg some q1)⟩, q2.ok, q3⟩
end Go.Proofs.Qxb6603997a
