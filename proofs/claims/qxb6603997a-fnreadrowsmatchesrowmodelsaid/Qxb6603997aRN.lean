import Derived.Test.Qxb6603997aRE
import Derived.Deep.RegionWith
import Derived.Deep.QuietTactic
import Derived.BigQuiet
namespace Go.Proofs.Qxb6603997a
open Go.RowKit

theorem hid2 {p : Prop} (h : p) : Hid p := h
theorem below_drewN {B : Nat} {a w : World} (h : Below B a w) (n : Nat) : Below B a (w.drewN n) := h.trans ⟨rfl, rfl, rfl, Nat.le_refl _, fun _ _ => rfl⟩

set_option maxHeartbeats 1000000 in
theorem sameStrs_any (h1 h2 : Hd) (T : Nat → ByteArray) (w : World) (k1 : h1.ok) (k2 : h2.ok) (a1 : StrsAt w h1 T) (a2 : StrsAt w h2 T) (hn : h2.n = h1.n) (hnil : h2.a = none ↔ h1.a = none) (hle : h1.n ≤ 1048576) :
    Calls Try.prog 20 #[h1.val, h2.val] w fun e w' => e = .returned (.bool true) ∧ Below w.heap.size w w' := by
  have A1 : Hid (StrsAt w h1 T) := a1
  have A2 : Hid (StrsAt w h2 T) := a2
  clear a1 a2
  obtain ⟨b1, n, c1⟩ := h1
  obtain ⟨b2, n2, c2⟩ := h2
  simp only at hn hnil hle
  subst hn
  have heq1 := fun w => Lib.run_eql_slice_nil (P := Try.prog) w 26 9 b1 n2 c1 0 0 Try.underlying26
  have heq2 := fun w => Lib.run_eql_slice_nil (P := Try.prog) w 26 9 b2 n2 c2 0 0 Try.underlying26
  have hb : b1.isNone = b2.isNone := by
    rcases b1 with _ | b1 <;> rcases b2 with _ | b2 <;> simp at hnil ⊢
  rw [hb] at heq1
  clear hb k1 k2 hnil
  unfold Hd.val
  generalize b2.isNone = q at *
  go_enter Try.func20, Try.ntmps20
  go_wp2
  go_loopg [5] n2 (fun g i wr => ∃ k : Nat, k ≤ n2 ∧ g = n2 - k ∧ i = .int .i64 k ∧ Below w.heap.size w wr)
  case atStart => exact ⟨0, Nat.zero_le _, rfl, rfl, Below.refl _ _⟩
  case round =>
    obtain ⟨k, hk, hg, rfl, hbel⟩ := hrel
    by_cases hlt : k < n2
    · obtain ⟨d1, o1, e1, q1⟩ := A1.out k hlt
      obtain ⟨d2, o2, e2, q2⟩ := A2.out k hlt
      cases e1
      cases e2
      have r1 := cell_b hbel q1
      have r2 := cell_b hbel q2
      rw [Nat.mul_one] at r1 r2
      clear q1 q2
      generalize T k = tx at *
      have hltI : (k : Int) < (n2 : Int) := by omega
      go_wp2_with fail
      go_quiet (fail)
      go_wp2
      go_roundg (n2 - (k + 1))
      case measure => omega
      case rel => exact ⟨k + 1, by omega, rfl, by go_num, below_drewN hbel _⟩
    · have d : decide ((k : Int) < (n2 : Int)) = false := decide_eq_false (by omega)
      go_wp2
      go_ret
      exact ⟨rfl, hbel⟩

set_option maxHeartbeats 1000000 in
theorem sameToks_any (h1 h2 : Hd) (T : Nat → Tok) (w : World) (a1 : ToksAt w h1 T) (a2 : ToksAt w h2 T) (hn : h2.n = h1.n) (hnil : h2.a = none ↔ h1.a = none) (hle : h1.n ≤ 1048576) :
    Calls Try.prog 36 #[h1.val, h2.val] w fun e w' => e = .returned (.bool true) ∧ Below w.heap.size w w' := by
  have A1 : Hid (ToksAt w h1 T) := a1
  have A2 : Hid (ToksAt w h2 T) := a2
  clear a1 a2
  obtain ⟨b1, n, c1⟩ := h1
  obtain ⟨b2, n2, c2⟩ := h2
  simp only at hn hnil hle
  subst hn
  have heq1 := fun w => Lib.run_eql_slice_nil (P := Try.prog) w 36 74 b1 n2 c1 0 0 Try.underlying36
  have heq2 := fun w => Lib.run_eql_slice_nil (P := Try.prog) w 24 61 b2 n2 c2 0 0 Try.underlying24
  have hb : b1.isNone = b2.isNone := by
    rcases b1 with _ | b1 <;> rcases b2 with _ | b2 <;> simp at hnil ⊢
  rw [hb] at heq1
  clear hb hnil
  unfold Hd.val
  generalize b2.isNone = q at *
  go_enter Try.func36, Try.ntmps36
  go_wp2
  go_loopg [5] n2 (fun g i wr => ∃ k : Nat, k ≤ n2 ∧ g = n2 - k ∧ i = .int .i64 k ∧ Below w.heap.size w wr)
  case atStart => exact ⟨0, Nat.zero_le _, rfl, rfl, Below.refl _ _⟩
  case round =>
    obtain ⟨k, hk, hg, rfl, hbel⟩ := hrel
    by_cases hlt : k < n2
    · obtain ⟨d1, o1, e1, q1⟩ := A1.out k hlt
      obtain ⟨d2, o2, e2, q2⟩ := A2.out k hlt
      cases e1
      cases e2
      have Q1 : Hid (TokAt wr.drew d1 (o1 + k * 5) (T k)) := q1.below hbel.drew
      obtain ⟨r0, r1, r2, r3, r4⟩ := q1.below hbel
      obtain ⟨s0, s1, s2, s3, s4⟩ := q2.below hbel
      clear q1 q2
      have HT := hid2 (tok_any (T k) wr.drew)
      unfold Tok.val at HT
      have hltI : (k : Int) < (n2 : Int) := by omega
      go_wp2_with fail
      go_region_with (go_at_call 31; (refine HT.out.mono ?_; rintro e w2 ⟨rfl, hb2⟩; obtain ⟨m0, m1, m2, m3, m4⟩ := Q1.out.below hb2))
      all_goals go_wp2
      all_goals
        go_roundg (n2 - (k + 1))
        case measure => omega
        case rel => exact ⟨k + 1, by omega, rfl, by go_num, hbel.drew.trans (hb2.mono hbel.size)⟩
    · have d : decide ((k : Int) < (n2 : Int)) = false := decide_eq_false (by omega)
      go_wp2
      go_ret
      exact ⟨rfl, hbel⟩
end Go.Proofs.Qxb6603997a
