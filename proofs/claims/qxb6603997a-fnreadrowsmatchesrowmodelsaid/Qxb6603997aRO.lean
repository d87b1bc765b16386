import Derived.Test.Qxb6603997aRN
namespace Go.Proofs.Qxb6603997a
open Go.RowKit

/-- Two heads that a comparison takes for one. -/
structure Sm (h1 h2 : Hd) : Prop where
  n : h2.n = h1.n
  nil : h2.a = none ↔ h1.a = none

set_option maxHeartbeats 1000000 in
theorem sameVals_any (h1 h2 : Hd) (H1 H2 : Nat → Hd) (T : Nat → Nat → Tok) (w : World) (a1 : ValsAt w h1 H1 T) (a2 : ValsAt w h2 H2 T) (hsm : Sm h1 h2) (hle : h1.n ≤ 1048576) (hin : ∀ k, k < h1.n → Sm (H1 k) (H2 k) ∧ (H1 k).n ≤ 1048576) :
    Calls Try.prog 22 #[h1.val, h2.val] w fun e w' => e = .returned (.bool true) ∧ Below w.heap.size w w' := by
  have A1 : Hid (ValsAt w h1 H1 T) := a1
  have A2 : Hid (ValsAt w h2 H2 T) := a2
  have HI : Hid (∀ k, k < h1.n → Sm (H1 k) (H2 k) ∧ (H1 k).n ≤ 1048576) := hin
  obtain ⟨hn, hnil⟩ := hsm
  clear a1 a2 hin
  obtain ⟨b1, n, c1⟩ := h1
  obtain ⟨b2, n2, c2⟩ := h2
  simp only at hn hnil hle
  subst hn
  have heq1 := fun w => Lib.run_eql_slice_nil (P := Try.prog) w 52 36 b1 n2 c1 0 0 Try.underlying52
  have heq2 := fun w => Lib.run_eql_slice_nil (P := Try.prog) w 55 24 b2 n2 c2 0 0 Try.underlying55
  have hb : b1.isNone = b2.isNone := by
    rcases b1 with _ | b1 <;> rcases b2 with _ | b2 <;> simp at hnil ⊢
  rw [hb] at heq1
  clear hb hnil
  unfold Hd.val
  generalize b2.isNone = q at *
  go_enter Try.func22, Try.ntmps22
  go_wp2
  go_loopg [5] n2 (fun g i wr => ∃ k : Nat, k ≤ n2 ∧ g = n2 - k ∧ i = .int .i64 k ∧ Below w.heap.size w wr)
  case atStart => exact ⟨0, Nat.zero_le _, rfl, rfl, Below.refl _ _⟩
  case round =>
    obtain ⟨k, hk, hg, rfl, hbel⟩ := hrel
    by_cases hlt : k < n2
    · obtain ⟨⟨d1, o1, e1, q1⟩, -, t1⟩ := A1.out k hlt
      obtain ⟨⟨d2, o2, e2, q2⟩, -, t2⟩ := A2.out k hlt
      cases e1
      cases e2
      have r1 := cell_b hbel q1
      have r2 := cell_b hbel q2
      rw [Nat.mul_one] at r1 r2
      obtain ⟨hs, hl⟩ := HI.out k hlt
      have HT := hid2 (sameToks_any (H1 k) (H2 k) (T k) wr.drew (t1.below hbel.drew) (t2.below hbel.drew) hs.n hs.nil hl)
      unfold Hd.val at HT r1 r2
      clear q1 q2 t1 t2 hs hl
      have hltI : (k : Int) < (n2 : Int) := by omega
      go_wp2_with fail
      go_region_with (go_at_call 36; (refine HT.out.mono ?_; rintro e w2 ⟨rfl, hb2⟩))
      all_goals go_wp2
      all_goals
        go_roundg (n2 - (k + 1))
        case measure => omega
        case rel => exact ⟨k + 1, by omega, rfl, by go_num, hbel.drew.trans (hb2.mono hbel.size)⟩
    · have d : decide ((k : Int) < (n2 : Int)) = false := decide_eq_false (by omega)
      go_wp2
      go_ret
      exact ⟨rfl, hbel⟩

end Go.Proofs.Qxb6603997a
