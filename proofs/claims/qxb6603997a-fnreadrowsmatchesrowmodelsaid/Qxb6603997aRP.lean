import Derived.Test.Qxb6603997aRO
import Derived.Deep.RegionHeld
namespace Go.Proofs.Qxb6603997a
open Go.RowKit

set_option maxHeartbeats 4000000 in
theorem sameSet_any (h1 h2 : Hd) (R1 R2 : Nat → SetD) (w : World) (a1 : SetAt w h1 R1) (a2 : SetAt w h2 R2) (hsm : Sm h1 h2) (hle : h1.n ≤ 1048576) (hin : ∀ k, k < h1.n → (R2 k).s = (R1 k).s ∧ (R2 k).T = (R1 k).T ∧ Sm (R1 k).v (R2 k).v ∧ (R1 k).v.n ≤ 1048576) :
    Calls Try.prog 21 #[h1.val, h2.val] w fun e w' => e = .returned (.bool true) ∧ Below w.heap.size w w' := by
  have A1 : Hid (SetAt w h1 R1) := a1
  have A2 : Hid (SetAt w h2 R2) := a2
  have HI : Hid (∀ k, k < h1.n → (R2 k).s = (R1 k).s ∧ (R2 k).T = (R1 k).T ∧ Sm (R1 k).v (R2 k).v ∧ (R1 k).v.n ≤ 1048576) := hin
  obtain ⟨hn, hnil⟩ := hsm
  clear a1 a2 hin
  obtain ⟨b1, n, c1⟩ := h1
  obtain ⟨b2, n2, c2⟩ := h2
  simp only at hn hnil hle
  subst hn
  have heq1 := fun w => Lib.run_eql_slice_nil (P := Try.prog) w 43 78 b1 n2 c1 0 0 Try.underlying43
  have heq2 := fun w => Lib.run_eql_slice_nil (P := Try.prog) w 28 66 b2 n2 c2 0 0 Try.underlying28
  have hb : b1.isNone = b2.isNone := by
    rcases b1 with _ | b1 <;> rcases b2 with _ | b2 <;> simp at hnil ⊢
  rw [hb] at heq1
  clear hb hnil
  unfold Hd.val
  generalize b2.isNone = q at *
  go_enter Try.func21, Try.ntmps21
  go_wp2
  go_loopg [5] n2 (fun g i wr => ∃ k : Nat, k ≤ n2 ∧ g = n2 - k ∧ i = .int .i64 k ∧ Below w.heap.size w wr)
  case atStart => exact ⟨0, Nat.zero_le _, rfl, rfl, Below.refl _ _⟩
  case round =>
    obtain ⟨k, hk, hg, rfl, hbel⟩ := hrel
    by_cases hlt : k < n2
    · obtain ⟨⟨d1, o1, e1, q1⟩, -, t1⟩ := A1.out k hlt
      obtain ⟨⟨d2, o2, e2, q2⟩, -, t2⟩ := A2.out k hlt
      cases e1
      cases e2
      obtain ⟨r1, s1⟩ := q1.below hbel
      obtain ⟨r2, s2⟩ := q2.below hbel
      obtain ⟨es, eT, hs, hl⟩ := HI.out k hlt
      rw [eT] at t2
      rw [es] at r2
      have HT := hid2 (sameToks_any (R1 k).v (R2 k).v (R1 k).T wr.drew (t1.below hbel.drew) (t2.below hbel.drew) hs.n hs.nil hl)
      unfold Hd.val at HT s1 s2
      clear q1 q2 t1 t2 hs hl es eT
      generalize (R1 k).s = sx at *
      have hltI : (k : Int) < (n2 : Int) := by omega
      have hsx : (sx.toList == sx.toList) = true := by simp
      go_wp2_with fail
      go_region_held (fun w' => w'.cell? ⟨d1, o1 + k * 2, none⟩ = some (.string sx) ∧ w'.cell? ⟨d1, o1 + k * 2 + 1, none⟩ = some (.slice (R1 k).v.a (R1 k).v.n (R1 k).v.cap) ∧ w'.cell? ⟨d2, o2 + k * 2, none⟩ = some (.string sx) ∧ w'.cell? ⟨d2, o2 + k * 2 + 1, none⟩ = some (.slice (R2 k).v.a (R2 k).v.n (R2 k).v.cap)) (first | go_keep | exact ⟨cell_b (hbd.trans hb2) r1, cell_b (hbd.trans hb2) s1, cell_b (hbd.trans hb2) r2, cell_b (hbd.trans hb2) s2⟩) (first | (go_at_call 36; refine HT.out.mono ?_; rintro e w2 ⟨rfl, hb2⟩; have hbd : Below wr.heap.size wr wr.drew := (Below.refl _ _).drew))
      all_goals go_wp2
      all_goals
        go_roundg (n2 - (k + 1))
        case measure => omega
        case rel => exact ⟨k + 1, by omega, rfl, by go_num, hbel.drew.trans (hb2.mono hbel.size)⟩
    · have d : decide ((k : Int) < (n2 : Int)) = false := decide_eq_false (by omega)
      go_wp2
      go_ret
      exact ⟨rfl, hbel⟩
end Go.Proofs.Qxb6603997a
