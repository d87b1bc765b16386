import Derived.Test.Qxb6603997aRF
import Derived.Deep.RegionWith
import Derived.Deep.DeepCutAuto
import Derived.Deep.CutBlock
namespace Go.Proofs.Qxb6603997a
open Go.RowKit

theorem hid {p : Prop} (h : p) : Hid p := h

structure FRow (f : Nat → Value) (o : Nat) (r : RowD) : Prop where
  c0 : f o = .int .i64 r.p
  c1 : f (o + 1) = .int .i64 r.e
  c2 : f (o + 2) = r.v.val
structure RCp (B : Nat) (r r' : RowD) : Prop where
  p : r'.p = r.p
  e : r'.e = r.e
  T : r'.T = r.T
  v : Cp B r.v r'.v
  H : ∀ k, k < r.v.n → Cp B (r.H k) (r'.H k)
theorem RCp.mono {B B' : Nat} {r r' : RowD} (k : RCp B r r') (hB : B' ≤ B) : RCp B' r r' := ⟨k.p, k.e, k.T, k.v.mono hB, fun j hj => (k.H j hj).mono hB⟩
theorem RCp.into {B : Nat} {r r' : RowD} (k : RCp B r r') : ValsIn (fun b => B ≤ b) r'.v r'.H := ⟨k.v.new, fun j hj => (k.H j (k.v.n ▸ hj)).new⟩

/-- How far the rows have been copied. -/
def RInv (B : Nat) (R R' : Nat → RowD) (f : Nat → Value) (wr : World) (k : Nat) : Prop :=
  ∀ j, j < k → FRow f (j * 3) (R' j) ∧ RCp (B + 1) (R j) (R' j) ∧ ValsAt wr (R' j).v (R' j).H (R' j).T

theorem rowsStep {B el n k : Nat} {R R' : Nat → RowD} {f : Nat → Value} {W wr w2 : World} {h2 : Hd} {H2 : Nat → Hd} (hrow : wr.rowIs B el (n * 3) f) (hbel : Below B W wr) (hB : B = W.heap.size) (hi : RInv B R R' f wr k)
    (hb2 : Below wr.heap.size wr w2) (hcp : Cp wr.heap.size (R k).v h2) (hcps : ∀ j, j < (R k).v.n → Cp wr.heap.size ((R k).H j) (H2 j)) (hv : ValsAt w2 h2 H2 (R k).T) :
    ∃ f' R'', (((w2.setCell ⟨B, k * 3, none⟩ (.int .i64 (R k).p)).setCell ⟨B, k * 3 + 1, none⟩ (.int .i64 (R k).e)).setCell ⟨B, k * 3 + 2, none⟩ h2.val).rowIs B el (n * 3) f' ∧
      RInv B R R'' f' (((w2.setCell ⟨B, k * 3, none⟩ (.int .i64 (R k).p)).setCell ⟨B, k * 3 + 1, none⟩ (.int .i64 (R k).e)).setCell ⟨B, k * 3 + 2, none⟩ h2.val) (k + 1) ∧
      Below B W (((w2.setCell ⟨B, k * 3, none⟩ (.int .i64 (R k).p)).setCell ⟨B, k * 3 + 1, none⟩ (.int .i64 (R k).e)).setCell ⟨B, k * 3 + 2, none⟩ h2.val) := by
  have hlw := hrow.lt
  have hrow2 : w2.rowIs B el (n * 3) f := hrow.of_block (hb2.block _ hlw)
  have hbel2 : Below B W w2 := hbel.trans (hb2.mono (by omega))
  have hK : Keep (fun b => B + 1 ≤ b) w2 (((w2.setCell ⟨B, k * 3, none⟩ (.int .i64 (R k).p)).setCell ⟨B, k * 3 + 1, none⟩ (.int .i64 (R k).e)).setCell ⟨B, k * 3 + 2, none⟩ h2.val) :=
    (((Keep.refl _ _).set (fun b hb => by omega) _ _).set (fun b hb => by omega) _ _).set (fun b hb => by omega) _ _
  have hK1 : Keep (fun b => B + 1 ≤ b) wr w2 := Below.keep hb2 _
  refine ⟨_, fun j => if j = k then ⟨(R k).p, (R k).e, h2, H2, (R k).T⟩ else R' j, ((hrow2.set (k * 3) _).set (k * 3 + 1) _).set (k * 3 + 2) _, fun j hj => ?_, ((hbel2.setCell (Nat.le_refl _) _).setCell (Nat.le_refl _) _).setCell (Nat.le_refl _) _⟩
  by_cases e : j = k
  · subst e
    have hc : RCp (B + 1) (R j) ⟨(R j).p, (R j).e, h2, H2, (R j).T⟩ := ⟨rfl, rfl, rfl, hcp.mono (by omega), fun i hi => (hcps i hi).mono (by omega)⟩
    simp only [if_true]
    refine ⟨⟨?_, ?_, ?_⟩, hc, hv.keep hK hc.into⟩ <;> simp
  · simp only [if_neg e]
    obtain ⟨⟨q0, q1, q2⟩, hc, hq⟩ := hi j (by omega)
    refine ⟨⟨?_, ?_, ?_⟩, hc, (hq.keep hK1 hc.into).keep hK hc.into⟩
    · simp only [show ¬ j * 3 = k * 3 + 2 by omega, show ¬ j * 3 = k * 3 + 1 by omega, show ¬ j * 3 = k * 3 by omega, if_false]; exact q0
    · simp only [show ¬ j * 3 + 1 = k * 3 + 2 by omega, show ¬ j * 3 + 1 = k * 3 + 1 by omega, show ¬ j * 3 + 1 = k * 3 by omega, if_false]; exact q1
    · simp only [show ¬ j * 3 + 2 = k * 3 + 2 by omega, show ¬ j * 3 + 2 = k * 3 + 1 by omega, show ¬ j * 3 + 2 = k * 3 by omega, if_false]; exact q2

theorem Try.info57 : (Try.prog.info? 57).map (fun i => (i.zero, i.size, i.bytes)) = some (some (.agg #[.int .i64 0, .int .i64 0, .slice none 0 0]), 3, 40) := by kernel_rfl
theorem Try.info54 : (Try.prog.info? 54).map (fun i => (i.zero, i.size, i.bytes)) = some (some (.agg #[.int .i64 0, .int .i64 0, .slice none 0 0]), 3, 40) := by kernel_rfl

set_option maxRecDepth 100000 in
set_option maxHeartbeats 4000000 in
theorem cloneRows_any (h : Hd) (R : Nat → RowD) (w : World) (hok : h.ok) (ht : RowsAt w h R) (hn : h.n ≤ 1048576) (hm : ∀ k, k < h.n → (R k).v.n ≤ 1048576 ∧ ∀ j, j < (R k).v.n → ((R k).H j).n ≤ 1048576) :
    Calls Try.prog 13 #[h.val] w fun e w' => ∃ h' R', e = .returned h'.val ∧ Cp w.heap.size h h' ∧ (∀ k, k < h.n → RCp w.heap.size (R k) (R' k)) ∧ RowsAt w' h' R' ∧ Below w.heap.size w w' := by
  obtain ⟨a, n, cap⟩ := h
  obtain ⟨hz, -, -⟩ := hok
  simp only [Hd.val] at *
  rcases a with _ | ⟨b, off, sp⟩
  · obtain ⟨rfl, rfl⟩ := hz rfl
    have heq := fun w => Lib.run_eql_slice_nil (P := Try.prog) w 27 57 none 0 0 0 0 Try.underlying27
    clear ht hz hm
    go_enter Try.func13, Try.ntmps13
    go_wp2
    go_ret
    exact ⟨⟨none, 0, 0⟩, R, rfl, Cp.none _, fun k hk => absurd hk (Nat.not_lt_zero _), fun k hk => absurd hk (Nat.not_lt_zero _), Below.refl _ _⟩
  · have HT : Hid (RowsAt w ⟨some ⟨b, off, sp⟩, n, cap⟩ R) := ht
    have HM : Hid (∀ k, k < n → (R k).v.n ≤ 1048576 ∧ ∀ j, j < (R k).v.n → ((R k).H j).n ≤ 1048576) := hm
    clear ht hz hm
    have hmk := run_make_n (P := Try.prog) 27 57 _ 3 40 Try.underlying27 Try.info57 .i64 .i64 n (by omega) (by omega)
    have heq := fun w => Lib.run_eql_slice_nil (P := Try.prog) w 27 57 (some ⟨b, off, sp⟩) n cap 0 0 Try.underlying27
    go_enter Try.func13, Try.ntmps13
    go_wp2
    go_loopg [4] n (fun g i wr => ∃ (k : Nat) (f : Nat → Value) (R' : Nat → RowD), k ≤ n ∧ g = n - k ∧ i = .int .i64 k ∧ wr.rowIs w.heap.size 57 (n * 3) f ∧ RInv w.heap.size R R' f wr k ∧ Below w.heap.size w wr)
    case atStart =>
      obtain ⟨f, hf⟩ := rowIs_make w (Value.agg #[.int .i64 0, .int .i64 0, .slice none 0 0]).cells (n * 3) 57
      exact ⟨0, f, R, Nat.zero_le _, rfl, rfl, hf, fun j hj => absurd hj (Nat.not_lt_zero _), (Below.refl _ _).alloc (Nat.le_refl _) _⟩
    case round =>
      obtain ⟨k, f, R', hk, hg, rfl, hrow, HF, hbel⟩ := hrel
      by_cases hlt : k < n
      · obtain ⟨⟨b', off', he, ht⟩, hok, hto⟩ := HT.out k hlt
        cases he
        obtain ⟨c0, c1, c2⟩ := ht.below hbel
        have hbd : Below w.heap.size w wr.drew := hbel.drew
        have HC := hid (cloneVals_any (R k).v (R k).H (R k).T wr.drew hok (hto.below hbd) (HM.out k hlt).1 (HM.out k hlt).2)
        have HS : Hid (∀ (w2 : World) (h2 : Hd) (H2 : Nat → Hd), Below wr.drew.heap.size wr.drew w2 → Cp wr.drew.heap.size (R k).v h2 → (∀ j, j < (R k).v.n → Cp wr.drew.heap.size ((R k).H j) (H2 j)) → ValsAt w2 h2 H2 (R k).T → _) :=
          fun w2 h2 H2 hb2 hcp hcps hv => rowsStep (w2 := w2) (h2 := h2) (H2 := H2) hrow.drew hbd rfl (R' := R') (fun j hj => let ⟨a, b, c⟩ := HF j hj; ⟨a, b, c.below (Below.refl _ wr).drew⟩) hb2 hcp hcps hv
        have HR : Hid (∀ w2, Below wr.drew.heap.size wr.drew w2 → w2.rowIs w.heap.size 57 (n * 3) f) := fun w2 hb2 => hrow.of_block (hb2.block _ hrow.lt)
        unfold Hd.val at c2 HC HS
        clear ht hto hok HF hbd hrow
        generalize (R k).p = rp at *
        generalize (R k).e = re at *
        go_wp2_with fail
        go_region_with (go_at_call 30; (refine HC.out.mono ?_; rintro e w2 ⟨h2, H2, rfl, hcp, hcps, hv2, hb2⟩; have d0 := cell_b hb2 c0; have d1 := cell_b hb2 c1; have d2 := cell_b hb2 c2; have hr2 := HR.out w2 hb2; have z0 := hr2.cell (i := k * 3) (by omega); have z1 := hr2.cell (i := k * 3 + 1) (by omega); have z2 := hr2.cell (i := k * 3 + 2) (by omega); have y0 := hr2.frozen (k * 3); have y1 := hr2.frozen (k * 3 + 1); have y2 := hr2.frozen (k * 3 + 2); have HST := hid (HS.out _ _ _ hb2 hcp hcps hv2); clear hcp hcps hv2 hb2 hr2))
        all_goals
          go_wp2
          go_roundg (n - (k + 1))
          case measure => omega
          case rel =>
            obtain ⟨f', R'', hr, hi, hb⟩ := HST.out
            exact ⟨k + 1, f', R'', by omega, rfl, by go_num, hr, hi, hb⟩
      · have hkn : k = n := by omega
        subst hkn
        have HF2 : Hid (RInv w.heap.size R R' f wr k) := HF
        clear HF
        go_wp2
        go_ret
        refine ⟨⟨some ⟨w.heap.size, 0, none⟩, k, k⟩, R', rfl, Cp.made _ hn, fun j hj => (HF2.out j hj).2.1.mono (by omega), fun j hj => ?_, hbel⟩
        obtain ⟨q1, q2, q3⟩ := HF2.out j hj
        have hj' : j < k := hj
        refine ⟨⟨_, 0, rfl, ?_⟩, q2.v.ok, q3⟩
        rw [Nat.zero_add]
        exact ⟨(hrow.cell (by omega)).trans (congrArg some q1.c0), (hrow.cell (by omega)).trans (congrArg some q1.c1), (hrow.cell (by omega)).trans (congrArg some q1.c2)⟩
end Go.Proofs.Qxb6603997a
