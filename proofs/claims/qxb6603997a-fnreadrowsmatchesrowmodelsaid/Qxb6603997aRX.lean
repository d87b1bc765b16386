import Derived.Test.Qxb6603997aRW
import Derived.Test.Qxb6603997aRF
import Derived.Test.Qxb6603997aRN
namespace Go.Proofs.Qxb6603997a
open Go.RowKit

/-- A comma at the depth of the first token. -/
def sepAt (T : Nat → Tok) (I : Nat → Int) (k : Nat) : Bool := (I k == I 0) && cma T k
/-- The parts that splitTop cuts, as pairs start, end. -/
def sp (T : Nat → Tok) (I : Nat → Int) (m : Nat) : Nat → Nat → Nat → List (Nat × Nat)
  | 0, _, s => if 0 < m then [(s, m)] else []
  | f + 1, k, s => if sepAt T I k then (s, k) :: sp T I m f (k + 1) (k + 1) else sp T I m f (k + 1) s
/-- A part's head. -/
def part (b off cap : Nat) (p : Nat × Nat) : Hd := ⟨if cap = p.1 then some ⟨b, off, none⟩ else some ⟨b, off + p.1 * 5, none⟩, p.2 - p.1, cap - p.1⟩
def heads (b off cap : Nat) (ps : List (Nat × Nat)) : List Value := ps.map fun p => (part b off cap p).val

set_option maxRecDepth 100000 in
set_option maxHeartbeats 4000000 in
theorem split_own (b off m cap : Nat) (hd : Hd) (T : Nat → Tok) (I : Nat → Int) (w : World) (ht : ToksAt w ⟨some ⟨b, off, none⟩, m, cap⟩ T) (hi : IntsAt w hd I) (hm : m ≤ 1048576) (hmc : m ≤ cap) (hcap : cap ≤ maxLen) (hdn : hd.n = m) :
    Calls Try.prog 44 #[.slice (some ⟨b, off, none⟩) m cap, hd.val, .string ⟨#[44]⟩] w fun e w' => ∃ v, e = .returned v ∧ w'.ownsRow w.heap.size 36 1 v (sp T I m m 0 0).length (heads b off cap (sp T I m m 0 0)) ∧ ((sp T I m m 0 0).length = 0 → v = .slice none 0 0) ∧ Below w.heap.size w w' := by
  obtain ⟨ad, nd, cd⟩ := hd
  have HT : Hid (ToksAt w ⟨some ⟨b, off, none⟩, m, cap⟩ T) := ht
  have HI : Hid (IntsAt w ⟨ad, nd, cd⟩ I) := hi
  simp only at hdn
  subst hdn
  unfold maxLen at hcap
  obtain ⟨L, hL⟩ : ∃ L, L = sp T I nd nd 0 0 := ⟨_, rfl⟩
  rw [← hL]
  have HL : Hid (L = sp T I nd nd 0 0) := hL
  clear ht hi hL
  unfold Hd.val
  obtain ⟨i0, hi0, hz0, hz1, hz2⟩ := info_parts Try.info36
  go_enter Try.func44, Try.ntmps44
  go_wp2
  go_loopg [7, 8, 13] nd (fun g v7 v8 v13 wr => ∃ (k s : Nat) (acc : List (Nat × Nat)), g = nd - k ∧ v8 = .int .i64 s ∧ v13 = .int .i64 k ∧ k ≤ nd ∧ s ≤ k ∧ acc.length ≤ s ∧ Hid (acc ++ sp T I nd (nd - k) k s = L) ∧ wr.ownsRow w.heap.size 36 1 v7 acc.length (heads b off cap acc) ∧ Hid (acc.length = 0 → v7 = .slice none 0 0) ∧ Below w.heap.size w wr)
  case atStart => exact ⟨0, 0, [], rfl, rfl, rfl, Nat.zero_le _, Nat.zero_le _, Nat.zero_le _, by unfold Hid; rw [HL.out]; rfl, World.ownsRow_nil _ _ _ _, fun _ => rfl, Below.refl _ _⟩
  case round =>
    obtain ⟨k, s, acc, hg, rfl, rfl, hk, hs, hac, HA, ho, HZ, hbel⟩ := hrel
    by_cases hlt : k < nd
    · obtain ⟨b', off', he, hc⟩ := HT.out k hlt
      cases he
      obtain ⟨b1, off1, he1, q1⟩ := HI.out k hlt
      cases he1
      obtain ⟨b2, off2, he2, q2⟩ := HI.out 0 (show 0 < nd by omega)
      cases he2
      obtain ⟨c0, c1, c2, c3, c4⟩ := hc.below hbel
      have d1 := cell_b hbel q1
      have d2 := cell_b hbel q2
      rw [Nat.mul_one] at d1
      rw [Nat.zero_mul, Nat.add_zero] at d2
      have hltI : (k : Int) < (nd : Int) := by omega
      clear hc q1 q2
      go_upto_region 6 with fail
      obtain ⟨wA, hwA⟩ : ∃ wA, wA = wr.alloc (.cells #[.int .i64 (T k).kind, .string (T k).text, .int .i64 (T k).pos, .int .i64 (T k).stop, .int .u64 (T k).mode] 74) := ⟨_, rfl⟩
      have hbA : Below wr.heap.size wr wA := by rw [hwA]; exact (Below.refl _ _).alloc (Nat.le_refl _) _
      have HB2 := hid3 (hbel.trans (hbA.mono hbel.size))
      have HO2 := hid3 (ownsRow_of_block ho fun g hg => hbA.block g (ho.lt g hg).2)
      have x0 : wA.cell? ⟨wr.heap.size, 0, none⟩ = some (.int .i64 (T k).kind) := by rw [hwA]; simp [go_sem]
      have x1 : wA.cell? ⟨wr.heap.size, 1, none⟩ = some (.string (T k).text) := by rw [hwA]; simp [go_sem]
      have x2 : wA.cell? ⟨wr.heap.size, 2, none⟩ = some (.int .i64 (T k).pos) := by rw [hwA]; simp [go_sem]
      have x3 : wA.cell? ⟨wr.heap.size, 3, none⟩ = some (.int .i64 (T k).stop) := by rw [hwA]; simp [go_sem]
      have x4 : wA.cell? ⟨wr.heap.size, 4, none⟩ = some (.int .u64 (T k).mode) := by rw [hwA]; simp [go_sem]
      replace d1 := cell_b hbA d1
      replace d2 := cell_b hbA d2
      rw [← hwA]
      clear hwA hbA c0 c1 c2 c3 c4 ho hbel
      go_cut [30] (fun c wx => c = .bool (sepAt T I k) ∧ Below wA.heap.size wA wx)
      case first =>
        as_aux_lemma =>
          have P1 := hid3 (isPunct_any (T k) ⟨#[44]⟩ wA.drew)
          unfold Tok.val at P1
          rcases Bool.eq_false_or_eq_true (I k == I 0) with hq | hq
          · have HE : Hid (sepAt T I k = isP (T k) ⟨#[44]⟩) := by unfold Hid sepAt cma; rw [hq, Bool.true_and]
            first | go_region_with (go_at_call 42; (refine P1.out.mono ?_; rintro e w2 ⟨rfl, hb2⟩)) | fail
            all_goals go_wp2
            all_goals
              go_meet
              exact ⟨by rw [HE.out], (Below.refl _ wA).drew.trans hb2⟩
          · have HE : Hid (sepAt T I k = false) := by unfold Hid sepAt cma; rw [hq, Bool.false_and]
            go_quiet (fail)
            go_wp2
            go_meet
            exact ⟨by rw [HE.out], below_drewN (Below.refl _ _) _⟩
      case rest =>
        obtain ⟨rfl, hbc⟩ := hcut
        have HB3 := hid3 (HB2.out.trans (hbc.mono HB2.out.size))
        have HO3 := hid3 (ownsRow_of_block HO2.out fun g hg => hbc.block g (HO2.out.lt g hg).2)
        clear hbc x0 x1 x2 x3 x4 d1 d2 HO2 HB2
        rcases Bool.eq_false_or_eq_true (sepAt T I k) with hq | hq
        · rw [hq]
          have HN : Hid ((acc ++ [(s, k)]) ++ sp T I nd (nd - (k + 1)) (k + 1) (k + 1) = L) := by
            have h1 := HA.out
            rw [show nd - k = (nd - (k + 1)) + 1 by omega] at h1
            unfold sp at h1
            rw [if_pos hq] at h1
            unfold Hid
            rw [← h1]; simp
          have hsk : (s : Int) ≤ (k : Int) := by omega
          have hkc : (k : Int) ≤ (cap : Int) := by omega
          clear hq HA
          have HEQ : Hid ((part b off cap (s, k)).val = .slice (some ⟨b, off + s * 5, none⟩) (k - s) (cap - s)) := by
            unfold Hid part Hd.val; rw [if_neg (by show ¬ cap = s; omega)]
          go_wp2_with (at_builtin; refine wpList_append_fr _ rfl (.tmp 31) (.tmp 36) 52 rfl w.heap.size 36 i0 (.slice none 0 0) 1 24 Try.underlying52 hi0 hz0 hz1 hz2 rfl (by decide) u7 acc.length (heads b off cap acc) rfl (ownsRow_of_block HO3.out fun g hg => ((Below.refl _ wc).alloc (Nat.le_refl _) _).block g (HO3.out.lt g hg).2) ⟨wc.heap.size, 0, none⟩ 1 1 [.slice (some ⟨b, off + s * 5, none⟩) (k - s) (cap - s)] rfl rfl (cell_one_new _ _ _) (fun x hx => by simp at hx; subst hx; rfl) (by unfold maxLen; omega) (by omega) (by have := HB3.out.size; simp; omega) (by decide) ?_; intro v7' w3 g1 g2 g3; have HG1 := hid3 g1; have HG2 := hid3 (HB3.out.alloc HB3.out.size _ |>.grown g2 (by have := HB3.out.size; simp; omega) fun j hj => (HO3.out.lt j hj).1); clear g1 g2 g3)
          go_roundg (nd - (k + 1))
          case measure => omega
          case rel =>
            have g1 := HG1.out
            rw [← HEQ.out, show heads b off cap acc ++ [(part b off cap (s, k)).val] = heads b off cap (acc ++ [(s, k)]) by simp [heads], show acc.length + 1 = (acc ++ [(s, k)]).length by simp] at g1
            exact ⟨k + 1, k + 1, acc ++ [(s, k)], rfl, by go_num, by go_num, by omega, by omega, by simp; omega, HN.out, g1, fun e => by simp at e, HG2.out⟩
        · rw [hq]
          have HN : Hid (acc ++ sp T I nd (nd - (k + 1)) (k + 1) s = L) := by
            have h1 := HA.out
            rw [show nd - k = (nd - (k + 1)) + 1 by omega] at h1
            unfold sp at h1
            rw [if_neg (by simp [hq])] at h1
            exact h1
          clear hq HA
          go_wp2
          go_roundg (nd - (k + 1))
          case measure => omega
          case rel => exact ⟨k + 1, s, acc, rfl, rfl, by go_num, by omega, by omega, by omega, HN.out, HO3.out, HZ.out, HB3.out⟩
    · have d' : decide ((k : Int) < (nd : Int)) = false := decide_eq_false (by omega)
      have hkn : nd - k = 0 := by omega
      have hA := HA.out
      rw [hkn] at hA
      unfold sp at hA
      have HO3 := hid3 ho
      by_cases h0 : 0 < nd
      · rw [if_pos h0] at hA
        have h0I : (0 : Int) < (nd : Int) := by omega
        have hsk : (s : Int) ≤ (nd : Int) := by omega
        have hsc : (s : Int) ≤ (cap : Int) := by omega
        by_cases hcs : cap = s
        · have hcs' : (cap : Int) = (s : Int) := by omega
          have HEQ : Hid ((part b off cap (s, nd)).val = .slice (some ⟨b, off, none⟩) (nd - s) 0) := by
            unfold Hid part Hd.val; rw [if_pos (by show cap = s; omega), show cap - s = 0 by omega]
          go_wp2_with (at_builtin; refine wpList_append_fr _ rfl (.tmp 44) (.tmp 48) 52 rfl w.heap.size 36 i0 (.slice none 0 0) 1 24 Try.underlying52 hi0 hz0 hz1 hz2 rfl (by decide) u7 acc.length (heads b off cap acc) rfl (ownsRow_of_block ho fun g hg => ((Below.refl _ wr).alloc (Nat.le_refl _) _).block g (ho.lt g hg).2) ⟨wr.heap.size, 0, none⟩ 1 1 [.slice (some ⟨b, off, none⟩) (nd - s) 0] rfl rfl (cell_one_new _ _ _) (fun x hx => by simp at hx; subst hx; rfl) (by unfold maxLen; omega) (by omega) (by have := hbel.size; simp; omega) (by decide) ?_; intro v7' w3 g1 g2 g3; have HG1 := hid3 g1; have HG2 := hid3 (hbel.alloc hbel.size _ |>.grown g2 (by have := hbel.size; simp; omega) fun j hj => (ho.lt j hj).1); clear g1 g2 g3)
          go_ret
          have g1 := HG1.out
          rw [← HEQ.out, show heads b off cap acc ++ [(part b off cap (s, nd)).val] = heads b off cap (acc ++ [(s, nd)]) by simp [heads], show acc.length + 1 = (acc ++ [(s, nd)]).length by simp, hA] at g1
          exact ⟨v7', rfl, g1, fun e => by rw [← hA] at e; simp at e, HG2.out⟩
        · have HEQ : Hid ((part b off cap (s, nd)).val = .slice (some ⟨b, off + s * 5, none⟩) (nd - s) (cap - s)) := by
            unfold Hid part Hd.val; rw [if_neg (by show ¬ cap = s; omega)]
          go_wp2_with (at_builtin; refine wpList_append_fr _ rfl (.tmp 44) (.tmp 48) 52 rfl w.heap.size 36 i0 (.slice none 0 0) 1 24 Try.underlying52 hi0 hz0 hz1 hz2 rfl (by decide) u7 acc.length (heads b off cap acc) rfl (ownsRow_of_block ho fun g hg => ((Below.refl _ wr).alloc (Nat.le_refl _) _).block g (ho.lt g hg).2) ⟨wr.heap.size, 0, none⟩ 1 1 [.slice (some ⟨b, off + s * 5, none⟩) (nd - s) (cap - s)] rfl rfl (cell_one_new _ _ _) (fun x hx => by simp at hx; subst hx; rfl) (by unfold maxLen; omega) (by omega) (by have := hbel.size; simp; omega) (by decide) ?_; intro v7' w3 g1 g2 g3; have HG1 := hid3 g1; have HG2 := hid3 (hbel.alloc hbel.size _ |>.grown g2 (by have := hbel.size; simp; omega) fun j hj => (ho.lt j hj).1); clear g1 g2 g3)
          go_ret
          have g1 := HG1.out
          rw [← HEQ.out, show heads b off cap acc ++ [(part b off cap (s, nd)).val] = heads b off cap (acc ++ [(s, nd)]) by simp [heads], show acc.length + 1 = (acc ++ [(s, nd)]).length by simp, hA] at g1
          exact ⟨v7', rfl, g1, fun e => by rw [← hA] at e; simp at e, HG2.out⟩
      · rw [if_neg h0] at hA
        have d0 : decide ((0 : Int) < (nd : Int)) = false := decide_eq_false (by omega)
        rw [List.append_nil] at hA
        subst hA
        go_wp2
        go_ret
        exact ⟨u7, rfl, ho, HZ.out, hbel⟩
end Go.Proofs.Qxb6603997a
