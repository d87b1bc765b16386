import Derived.Test.Qxb6603997aRG
namespace Go.Proofs.Qxb6603997a
open Go.RowKit

structure FSet (f : Nat → Value) (o : Nat) (r : SetD) : Prop where
  c0 : f o = .string r.s
  c1 : f (o + 1) = r.v.val
structure SCp (B : Nat) (r r' : SetD) : Prop where
  s : r'.s = r.s
  T : r'.T = r.T
  v : Cp B r.v r'.v
theorem SCp.mono {B B' : Nat} {r r' : SetD} (k : SCp B r r') (hB : B' ≤ B) : SCp B' r r' := ⟨k.s, k.T, k.v.mono hB⟩

/-- How far the assignments have been copied. -/
def SInv (B : Nat) (R R' : Nat → SetD) (f : Nat → Value) (wr : World) (k : Nat) : Prop :=
  ∀ j, j < k → FSet f (j * 2) (R' j) ∧ SCp (B + 1) (R j) (R' j) ∧ ToksAt wr (R' j).v (R' j).T

theorem setStep {B el n k : Nat} {R R' : Nat → SetD} {f : Nat → Value} {W wr w2 : World} {h2 : Hd} (hrow : wr.rowIs B el (n * 2) f) (hbel : Below B W wr) (hB : B = W.heap.size) (hi : SInv B R R' f wr k)
    (hb2 : Below wr.heap.size wr w2) (hcp : Cp wr.heap.size (R k).v h2) (hv : ToksAt w2 h2 (R k).T) :
    ∃ f' R'', ((w2.setCell ⟨B, k * 2, none⟩ (.string (R k).s)).setCell ⟨B, k * 2 + 1, none⟩ h2.val).rowIs B el (n * 2) f' ∧
      SInv B R R'' f' ((w2.setCell ⟨B, k * 2, none⟩ (.string (R k).s)).setCell ⟨B, k * 2 + 1, none⟩ h2.val) (k + 1) ∧
      Below B W ((w2.setCell ⟨B, k * 2, none⟩ (.string (R k).s)).setCell ⟨B, k * 2 + 1, none⟩ h2.val) := by
  have hlw := hrow.lt
  have hrow2 : w2.rowIs B el (n * 2) f := hrow.of_block (hb2.block _ hlw)
  have hbel2 : Below B W w2 := hbel.trans (hb2.mono (by omega))
  have hK : Keep (fun b => B + 1 ≤ b) w2 ((w2.setCell ⟨B, k * 2, none⟩ (.string (R k).s)).setCell ⟨B, k * 2 + 1, none⟩ h2.val) :=
    ((Keep.refl _ _).set (fun b hb => by omega) _ _).set (fun b hb => by omega) _ _
  have hK1 : Keep (fun b => B + 1 ≤ b) wr w2 := Below.keep hb2 _
  refine ⟨_, fun j => if j = k then ⟨(R k).s, h2, (R k).T⟩ else R' j, (hrow2.set (k * 2) _).set (k * 2 + 1) _, fun j hj => ?_, (hbel2.setCell (Nat.le_refl _) _).setCell (Nat.le_refl _) _⟩
  by_cases e : j = k
  · subst e
    have hc : SCp (B + 1) (R j) ⟨(R j).s, h2, (R j).T⟩ := ⟨rfl, rfl, hcp.mono (by omega)⟩
    simp only [if_true]
    refine ⟨⟨?_, ?_⟩, hc, hv.keep hK hc.v.new⟩ <;> simp
  · simp only [if_neg e]
    obtain ⟨⟨q0, q1⟩, hc, hq⟩ := hi j (by omega)
    refine ⟨⟨?_, ?_⟩, hc, (hq.keep hK1 hc.v.new).keep hK hc.v.new⟩
    · simp only [show ¬ j * 2 = k * 2 + 1 by omega, show ¬ j * 2 = k * 2 by omega, if_false]; exact q0
    · simp only [show ¬ j * 2 + 1 = k * 2 + 1 by omega, show ¬ j * 2 + 1 = k * 2 by omega, if_false]; exact q1

theorem Try.info66 : (Try.prog.info? 66).map (fun i => (i.zero, i.size, i.bytes)) = some (some (.agg #[.string ⟨#[]⟩, .slice none 0 0]), 2, 40) := by kernel_rfl
theorem Try.info78 : (Try.prog.info? 78).map (fun i => (i.zero, i.size, i.bytes)) = some (some (.agg #[.string ⟨#[]⟩, .slice none 0 0]), 2, 40) := by kernel_rfl

set_option maxRecDepth 100000 in
set_option maxHeartbeats 4000000 in
theorem cloneSet_any (h : Hd) (R : Nat → SetD) (w : World) (hok : h.ok) (ht : SetAt w h R) (hn : h.n ≤ 1048576) (hm : ∀ k, k < h.n → (R k).v.n ≤ 1048576) :
    Calls Try.prog 14 #[h.val] w fun e w' => ∃ h' R', e = .returned h'.val ∧ Cp w.heap.size h h' ∧ (∀ k, k < h.n → SCp w.heap.size (R k) (R' k)) ∧ SetAt w' h' R' ∧ Below w.heap.size w w' := by
  obtain ⟨a, n, cap⟩ := h
  obtain ⟨hz, -, -⟩ := hok
  simp only [Hd.val] at *
  rcases a with _ | ⟨b, off, sp⟩
  · obtain ⟨rfl, rfl⟩ := hz rfl
    have heq := fun w => Lib.run_eql_slice_nil (P := Try.prog) w 28 66 none 0 0 0 0 Try.underlying28
    clear ht hz hm
    go_enter Try.func14, Try.ntmps14
    go_wp2
    go_ret
    exact ⟨⟨none, 0, 0⟩, R, rfl, Cp.none _, fun k hk => absurd hk (Nat.not_lt_zero _), fun k hk => absurd hk (Nat.not_lt_zero _), Below.refl _ _⟩
  · have HT : Hid (SetAt w ⟨some ⟨b, off, sp⟩, n, cap⟩ R) := ht
    have HM : Hid (∀ k, k < n → (R k).v.n ≤ 1048576) := hm
    clear ht hz hm
    have hmk := run_make_n (P := Try.prog) 28 66 _ 2 40 Try.underlying28 Try.info66 .i64 .i64 n (by omega) (by omega)
    have heq := fun w => Lib.run_eql_slice_nil (P := Try.prog) w 28 66 (some ⟨b, off, sp⟩) n cap 0 0 Try.underlying28
    go_enter Try.func14, Try.ntmps14
    go_wp2
    go_loopg [4] n (fun g i wr => ∃ (k : Nat) (f : Nat → Value) (R' : Nat → SetD), k ≤ n ∧ g = n - k ∧ i = .int .i64 k ∧ wr.rowIs w.heap.size 66 (n * 2) f ∧ SInv w.heap.size R R' f wr k ∧ Below w.heap.size w wr)
    case atStart =>
      obtain ⟨f, hf⟩ := rowIs_make w (Value.agg #[.string ⟨#[]⟩, .slice none 0 0]).cells (n * 2) 66
      exact ⟨0, f, R, Nat.zero_le _, rfl, rfl, hf, fun j hj => absurd hj (Nat.not_lt_zero _), (Below.refl _ _).alloc (Nat.le_refl _) _⟩
    case round =>
      obtain ⟨k, f, R', hk, hg, rfl, hrow, HF, hbel⟩ := hrel
      by_cases hlt : k < n
      · obtain ⟨⟨b', off', he, ht⟩, hok, hto⟩ := HT.out k hlt
        cases he
        obtain ⟨c0, c1⟩ := ht.below hbel
        have hbd : Below w.heap.size w wr.drew := hbel.drew
        have HC := hid (cloneToks_any (R k).v (R k).T wr.drew hok (hto.below hbd) (HM.out k hlt))
        have HS : Hid (∀ (w2 : World) (h2 : Hd), Below wr.drew.heap.size wr.drew w2 → Cp wr.drew.heap.size (R k).v h2 → ToksAt w2 h2 (R k).T → _) :=
          fun w2 h2 hb2 hcp hv => setStep (w2 := w2) (h2 := h2) hrow.drew hbd rfl (R' := R') (fun j hj => let ⟨a, b, c⟩ := HF j hj; ⟨a, b, c.below (Below.refl _ wr).drew⟩) hb2 hcp hv
        have HR : Hid (∀ w2, Below wr.drew.heap.size wr.drew w2 → w2.rowIs w.heap.size 66 (n * 2) f) := fun w2 hb2 => hrow.of_block (hb2.block _ hrow.lt)
        unfold Hd.val at c1 HC HS
        clear ht hto hok HF hbd hrow
        generalize (R k).s = rs at *
        go_wp2_with fail
        go_region_with (go_at_call 10; (refine HC.out.mono ?_; rintro e w2 ⟨h2, rfl, hcp, hv2, hb2⟩; have d0 := cell_b hb2 c0; have d1 := cell_b hb2 c1; have hr2 := HR.out w2 hb2; have z0 := hr2.cell (i := k * 2) (by omega); have z1 := hr2.cell (i := k * 2 + 1) (by omega); have y0 := hr2.frozen (k * 2); have y1 := hr2.frozen (k * 2 + 1); have HST := hid (HS.out _ _ hb2 hcp hv2); clear hcp hv2 hb2 hr2))
        all_goals
          go_wp2
          go_roundg (n - (k + 1))
          case measure => omega
          case rel =>
            obtain ⟨f', R'', hr, hi, hb⟩ := HST.out
            exact ⟨k + 1, f', R'', by omega, rfl, by go_num, hr, hi, hb⟩
      · have hkn : k = n := by omega
        subst hkn
        have HF2 : Hid (SInv w.heap.size R R' f wr k) := HF
        clear HF
        go_wp2
        go_ret
        refine ⟨⟨some ⟨w.heap.size, 0, none⟩, k, k⟩, R', rfl, Cp.made _ hn, fun j hj => (HF2.out j hj).2.1.mono (by omega), fun j hj => ?_, hbel⟩
        obtain ⟨q1, q2, q3⟩ := HF2.out j hj
        have hj' : j < k := hj
        refine ⟨⟨_, 0, rfl, ?_⟩, q2.v.ok, q3⟩
        rw [Nat.zero_add]
        exact ⟨(hrow.cell (by omega)).trans (congrArg some q1.c0), (hrow.cell (by omega)).trans (congrArg some q1.c1)⟩

set_option maxRecDepth 100000 in
set_option maxHeartbeats 4000000 in
theorem set_any (h : Hd) (R : Nat → SetD) (w : World) (hok : h.ok) (ht : SetAt w h R) (hn : h.n ≤ 1048576) (hm : ∀ k, k < h.n → (R k).v.n ≤ 1048576) :
    Calls Try.prog 17 #[h.val] w fun e w' => ∃ h' R', e = .returned h'.val ∧ Cp w.heap.size h h' ∧ (∀ k, k < h.n → SCp w.heap.size (R k) (R' k)) ∧ SetAt w' h' R' ∧ Below w.heap.size w w' := by
  obtain ⟨a, n, cap⟩ := h
  obtain ⟨hz, -, -⟩ := hok
  simp only [Hd.val] at *
  rcases a with _ | ⟨b, off, sp⟩
  · obtain ⟨rfl, rfl⟩ := hz rfl
    have heq := fun w => Lib.run_eql_slice_nil (P := Try.prog) w 28 66 none 0 0 0 0 Try.underlying28
    clear ht hz hm
    go_enter Try.func17, Try.ntmps17
    go_wp2
    go_ret
    exact ⟨⟨none, 0, 0⟩, R, rfl, Cp.none _, fun k hk => absurd hk (Nat.not_lt_zero _), fun k hk => absurd hk (Nat.not_lt_zero _), Below.refl _ _⟩
  · have HT : Hid (SetAt w ⟨some ⟨b, off, sp⟩, n, cap⟩ R) := ht
    have HM : Hid (∀ k, k < n → (R k).v.n ≤ 1048576) := hm
    clear ht hz hm
    have hmk := run_make_n (P := Try.prog) 43 78 _ 2 40 Try.underlying43 Try.info78 .i64 .i64 n (by omega) (by omega)
    have heq := fun w => Lib.run_eql_slice_nil (P := Try.prog) w 28 66 (some ⟨b, off, sp⟩) n cap 0 0 Try.underlying28
    go_enter Try.func17, Try.ntmps17
    go_wp2
    go_loopg [4] n (fun g i wr => ∃ (k : Nat) (f : Nat → Value) (R' : Nat → SetD), k ≤ n ∧ g = n - k ∧ i = .int .i64 k ∧ wr.rowIs w.heap.size 78 (n * 2) f ∧ SInv w.heap.size R R' f wr k ∧ Below w.heap.size w wr)
    case atStart =>
      obtain ⟨f, hf⟩ := rowIs_make w (Value.agg #[.string ⟨#[]⟩, .slice none 0 0]).cells (n * 2) 78
      exact ⟨0, f, R, Nat.zero_le _, rfl, rfl, hf, fun j hj => absurd hj (Nat.not_lt_zero _), (Below.refl _ _).alloc (Nat.le_refl _) _⟩
    case round =>
      obtain ⟨k, f, R', hk, hg, rfl, hrow, HF, hbel⟩ := hrel
      by_cases hlt : k < n
      · obtain ⟨⟨b', off', he, ht⟩, hok, hto⟩ := HT.out k hlt
        cases he
        obtain ⟨c0, c1⟩ := ht.below hbel
        have hbd : Below w.heap.size w wr.drew := hbel.drew
        have HC := hid (toks_any (R k).v (R k).T wr.drew hok (hto.below hbd) (HM.out k hlt))
        have HS : Hid (∀ (w2 : World) (h2 : Hd), Below wr.drew.heap.size wr.drew w2 → Cp wr.drew.heap.size (R k).v h2 → ToksAt w2 h2 (R k).T → _) :=
          fun w2 h2 hb2 hcp hv => setStep (w2 := w2) (h2 := h2) hrow.drew hbd rfl (R' := R') (fun j hj => let ⟨a, b, c⟩ := HF j hj; ⟨a, b, c.below (Below.refl _ wr).drew⟩) hb2 hcp hv
        have HR : Hid (∀ w2, Below wr.drew.heap.size wr.drew w2 → w2.rowIs w.heap.size 78 (n * 2) f) := fun w2 hb2 => hrow.of_block (hb2.block _ hrow.lt)
        unfold Hd.val at c1 HC HS
        clear ht hto hok HF hbd hrow
        generalize (R k).s = rs at *
        go_wp2_with fail
        go_region_with (go_at_call 15; (refine HC.out.mono ?_; rintro e w2 ⟨h2, rfl, hcp, hv2, hb2⟩; have d0 := cell_b hb2 c0; have d1 := cell_b hb2 c1; have hr2 := HR.out w2 hb2; have z0 := hr2.cell (i := k * 2) (by omega); have z1 := hr2.cell (i := k * 2 + 1) (by omega); have y0 := hr2.frozen (k * 2); have y1 := hr2.frozen (k * 2 + 1); have HST := hid (HS.out _ _ hb2 hcp hv2); clear hcp hv2 hb2 hr2))
        all_goals
          go_wp2
          go_roundg (n - (k + 1))
          case measure => omega
          case rel =>
            obtain ⟨f', R'', hr, hi, hb⟩ := HST.out
            exact ⟨k + 1, f', R'', by omega, rfl, by go_num, hr, hi, hb⟩
      · have hkn : k = n := by omega
        subst hkn
        have HF2 : Hid (SInv w.heap.size R R' f wr k) := HF
        clear HF
        go_wp2
        go_ret
        refine ⟨⟨some ⟨w.heap.size, 0, none⟩, k, k⟩, R', rfl, Cp.made _ hn, fun j hj => (HF2.out j hj).2.1.mono (by omega), fun j hj => ?_, hbel⟩
        obtain ⟨q1, q2, q3⟩ := HF2.out j hj
        have hj' : j < k := hj
        refine ⟨⟨_, 0, rfl, ?_⟩, q2.v.ok, q3⟩
        rw [Nat.zero_add]
        exact ⟨(hrow.cell (by omega)).trans (congrArg some q1.c0), (hrow.cell (by omega)).trans (congrArg some q1.c1)⟩
end Go.Proofs.Qxb6603997a
