import Derived.Test.Qxb6603935aLaw6a
namespace Go.Proofs.Qxb6603935a
open Go.RowKit

theorem tot_zero_le (ts : List ByteArray) : tot 0 ts ≤ tot 16 ts ∧ ts.length ≤ tot 16 ts := by
  induction ts with
  | nil => simp [tot]
  | cons t r ih => simp only [tot, List.map_cons, List.sum_cons, List.length_cons] at ih ⊢; omega

set_option maxRecDepth 100000 in
set_option maxHeartbeats 1000000 in
theorem law6_full (s : ByteArray) (b off : Nat) (ts : List ByteArray) (cap : Nat) (i : Int) (w : World) (hs : ∀ k, k < ts.length → w.cell? ⟨b, off + k, none⟩ = some (.string (ts.getD k ByteArray.empty))) (hl : ts.length ≤ maxLen) :
    Calls Try.prog 6 #[.string s, .slice (some ⟨b, off, none⟩) ts.length cap, .int .i64 i] w fun e w' => e = .returned (.bool true) ∧ Below w.heap.size w w' := by
  have hz := zzBytes18 s (some ⟨b, off, none⟩) ts cap i w (.inr ⟨b, off, rfl, hs⟩) hl
  have hsz := b1Size_any s (some ⟨b, off, none⟩) ts cap w (.inr ⟨b, off, rfl, hs⟩) hl
  have HS : Hid (∀ k, k < ts.length → w.cell? ⟨b, off + k, none⟩ = some (.string (ts.getD k ByteArray.empty))) := hs
  obtain ⟨n, hn'⟩ : ∃ n, n = ts.length := ⟨_, rfl⟩
  have HN : Hid (n = ts.length) := hn'
  rw [← hn'] at hl hz hsz ⊢
  clear hn' hs
  unfold maxLen at hl
  go_enter Try.func6, Try.ntmps6
  go_wp2_with fail
  refine hz.mono ?_
  clear hz
  rintro e w' ⟨⟨x, rfl⟩, rfl⟩
  cases x
  · go_wp2
    go_ret
    exact ⟨rfl, Below.refl _ _⟩
  go_wp2_with fail
  refine hsz.mono ?_
  clear hsz
  rintro e w' ⟨⟨m, rfl, hm⟩, rfl⟩
  rcases hm with rfl | ⟨hm, hm2⟩
  · go_wp2
    go_ret
    exact ⟨rfl, Below.refl _ _⟩
  have hm3 : ¬ (1048576 < m) := by omega
  have hmd : decide (1048576 < m) = false := decide_eq_false hm3
  have HM : Hid (s.size + tot 16 ts ≤ 1048576) := by unfold Hid; omega
  clear hm hm2
  go_wp2_with fail
  have hs20 : s.size ≤ 1048576 := by have := HM.out; omega
  go_loop [8, 9] (fun t i => ∃ k z : Nat, k ≤ n ∧ i = .int .i64 k ∧ t = .int .i64 (z : Int) ∧ Hid (z = s.size + tot 0 (ts.take k)) ∧ z ≤ 1048576) (fun _ i => n - (intOf i).toNat)
  case atStart => exact ⟨0, s.size, Nat.zero_le _, rfl, rfl, by unfold Hid; simp [tot], hs20⟩
  case round =>
    obtain ⟨k, z, hk, rfl, rfl, HZ, hz⟩ := hrel
    by_cases hlt : k < n
    · have hck := HS.out k (by rw [← HN.out]; exact hlt)
      have HT : Hid (tot 0 (ts.take (k + 1)) = tot 0 (ts.take k) + ((ts.getD k ByteArray.empty).size + 0)) := tot_next 0 ts k (by rw [← HN.out]; exact hlt)
      have hzt : z + (ts.getD k ByteArray.empty).size ≤ 1048576 := by
        have h1 := HT.out; have h2 := HZ.out; have h3 := HM.out; have h4 := tot_take 0 ts (k + 1); have h5 := (tot_zero_le ts).1; omega
      generalize ts.getD k ByteArray.empty = t at hck HT hzt
      go_wp2
      go_round
      case rel => exact ⟨k + 1, z + t.size, by omega, by go_num, by go_num, by unfold Hid; rw [HT.out, HZ.out]; omega, by omega⟩
      case measure => simp [intOf]; omega
    · have hkn : k = n := by omega
      subst hkn
      have HZ2 : Hid (z = s.size + tot 0 ts) := by have := HZ.out; rwa [HN.out, List.take_length] at this
      clear HZ hlt hk
      by_cases hi0 : i < 0
      · go_wp2
        go_ret
        exact ⟨rfl, Below.refl _ _⟩
      have hi0d : decide (i < 0) = false := decide_eq_false hi0
      by_cases hi1 : (z : Int) ≤ i
      · go_wp2
        go_ret
        exact ⟨rfl, Below.refl _ _⟩
      have hi1d : decide ((z : Int) ≤ i) = false := decide_eq_false hi1
      obtain ⟨j, rfl⟩ := Int.eq_ofNat_of_zero_le (show 0 ≤ i by omega)
      have hjz : j < z := by omega
      clear hi0 hi1
      have hn20 : k ≤ 1048576 := by have h1 := (tot_zero_le ts).2; have h2 := HM.out; rw [HN.out]; omega
      have hcl := clone_full b off ts cap w' HS.out (by rw [← HN.out]; exact hn20)
      rw [← HN.out] at hcl
      have HTOT : Hid (s.size + tot 0 ts ≤ 1048576) := by have h1 := (tot_zero_le ts).1; have h2 := HM.out; unfold Hid; omega
      go_wp2_with fail
      refine hcl.mono ?_
      clear hcl
      rintro e w2 ⟨rfl, hst, hb2⟩
      have hbu := build_any s (some ⟨w'.heap.size, 0, none⟩) ts k w2 hst (by rw [← HN.out]; exact hn20) HTOT.out
      rw [← HN.out] at hbu
      have HST : Hid (Strs w2 (some ⟨w'.heap.size, 0, none⟩) ts) := hst
      clear hst
      go_wp2_with fail
      refine hbu.mono ?_
      clear hbu
      rintro e w3 ⟨s', l, rfl, hbn, hch, hb3⟩
      have hlnl : ln s' (tails l) = z := by
        have h1 := ln_buildN s ts
        rw [← hbn] at h1
        have h2 := HZ2.out
        simp only at h1
        omega
      have HLN : Hid (ln s' (tails l) = z) := hlnl
      have HBN : Hid ((s', tails l) = buildN s ts) := hbn
      clear hbn hlnl
      have hlk := zzlink_any s' l j (w3.alloc (.cells #[.string s', .pointer (hp l)] 28)) (hch.below ((Below.refl _ _).alloc (Nat.le_refl _) _)) (by rw [HLN.out]; exact hjz) (by rw [HLN.out]; omega)
      clear hch
      go_wp2_with fail
      refine hlk.mono ?_
      clear hlk
      rintro e w4 ⟨nl, bl, tl, rfl, hans, hb4⟩
      have HANS : Hid (LinkAns s' (tails l) j nl bl tl) := hans
      have HB24 : Hid (Below w2.heap.size w2 w4) := (hb3.alloc hb3.size _).trans (hb4.mono (by have := hb3.size; simp; omega))
      have HB4 : Hid (Below w'.heap.size w' w4) := hb2.trans (HB24.out.mono hb2.size)
      have HC4 : Hid (Strs w4 (some ⟨w'.heap.size, 0, none⟩) ts) := HST.out.below HB24.out (Nat.le_refl _)
      clear hans hb2 hb3 hb4
      go_wp2_with fail
      go_loop [14, 15, 16, 17, 18, 19, 20] (fun sp lk of fd wo wt q => ∃ (c so oo won : Nat) (lb fb : Bool) (wts : ByteArray), c ≤ k ∧ q = .int .i64 c ∧ sp = .int .i64 so ∧ lk = .bool lb ∧ of = .int .i64 oo ∧ fd = .bool fb ∧ wo = .int .i64 won ∧ wt = .string wts ∧ Loop2 s ts j c so lb oo fb won wts) (fun _ _ _ _ _ _ q => k - (intOf q).toNat)
      case atStart => exact ⟨0, s.size, s.size, 0, false, false, ⟨#[]⟩, Nat.zero_le _, rfl, rfl, rfl, rfl, rfl, rfl, rfl, loop2_start s ts j⟩
      case round =>
        obtain ⟨c, so, oo, won, lb, fb, wts, hck, rfl, rfl, rfl, rfl, rfl, rfl, rfl, hL⟩ := hrel
        by_cases hlt : c < k
        · have hcl : c < ts.length := by rw [← HN.out]; exact hlt
          have hbd := loop2_bound hL hcl
          have htt := HTOT.out
          have hcell : w4.cell? ⟨w'.heap.size, c, none⟩ = some (.string (ts.getD c ByteArray.empty)) := by
            rcases HC4.out with h | ⟨b', off', h, hc⟩
            · rw [h] at hcl; simp at hcl
            · simp only [Option.some.injEq, Addr.mk.injEq, and_true] at h
              obtain ⟨rfl, rfl⟩ := h
              have := hc c hcl
              rwa [Nat.zero_add] at this
          have HL : Hid (Loop2 s ts j c so lb oo fb won wts) := hL
          have HCL : Hid (c < ts.length) := hcl
          obtain ⟨t, ht⟩ : ∃ t, t = ts.getD c ByteArray.empty := ⟨_, rfl⟩
          rw [← ht] at hcell hbd
          have HT : Hid (t = ts.getD c ByteArray.empty) := ht
          have hso : so ≤ 1048576 := by omega
          have hoo : oo + t.size ≤ 1048576 := by omega
          clear hL hcl ht hbd htt
          by_cases hA : lb = false ∧ so + t.size ≤ 256
          · obtain ⟨rfl, hA⟩ := hA
            go_wp2
            go_round
            case rel => exact ⟨c + 1, so + t.size, oo + t.size, won, false, fb, wts, by omega, by go_num, by go_num, rfl, by go_num, rfl, rfl, rfl, loop2_spelled HL.out HCL.out t HT.out hA⟩
            case measure => simp [intOf]; omega
          · have hB : lb = true ∨ 256 < so + t.size := by
              cases lb
              · right; simp at hA; omega
              · left; rfl
            have HB : Hid (lb = true ∨ 256 < so + t.size) := hB
            clear hA
            by_cases h5 : oo ≤ j
            · by_cases h6 : j < oo + t.size
              · cases lb
                · have hB2 : 256 < so + t.size := by simpa using hB
                  clear hB
                  go_wp2
                  go_round
                  case rel => exact ⟨c + 1, so, oo + t.size, oo, true, true, t, by omega, by go_num, rfl, rfl, by go_num, rfl, rfl, rfl, loop2_hit HL.out HCL.out t HT.out HB.out h5 h6⟩
                  case measure => simp [intOf]; omega
                · clear hB
                  go_wp2
                  go_round
                  case rel => exact ⟨c + 1, so, oo + t.size, oo, true, true, t, by omega, by go_num, rfl, rfl, by go_num, rfl, rfl, rfl, loop2_hit HL.out HCL.out t HT.out HB.out h5 h6⟩
                  case measure => simp [intOf]; omega
              · cases lb
                · have hB2 : 256 < so + t.size := by simpa using hB
                  clear hB
                  go_wp2
                  go_round
                  case rel => exact ⟨c + 1, so, oo + t.size, won, true, fb, wts, by omega, by go_num, rfl, rfl, by go_num, rfl, rfl, rfl, loop2_miss HL.out HCL.out t HT.out HB.out (by omega)⟩
                  case measure => simp [intOf]; omega
                · clear hB
                  go_wp2
                  go_round
                  case rel => exact ⟨c + 1, so, oo + t.size, won, true, fb, wts, by omega, by go_num, rfl, rfl, by go_num, rfl, rfl, rfl, loop2_miss HL.out HCL.out t HT.out HB.out (by omega)⟩
                  case measure => simp [intOf]; omega
            · cases lb
              · have hB2 : 256 < so + t.size := by simpa using hB
                clear hB
                go_wp2
                go_round
                case rel => exact ⟨c + 1, so, oo + t.size, won, true, fb, wts, by omega, by go_num, rfl, rfl, by go_num, rfl, rfl, rfl, loop2_miss HL.out HCL.out t HT.out HB.out (by omega)⟩
                case measure => simp [intOf]; omega
              · clear hB
                go_wp2
                go_round
                case rel => exact ⟨c + 1, so, oo + t.size, won, true, fb, wts, by omega, by go_num, rfl, rfl, by go_num, rfl, rfl, rfl, loop2_miss HL.out HCL.out t HT.out HB.out (by omega)⟩
                case measure => simp [intOf]; omega
        · have hfin := loop2_end hL (by have := HN.out; omega) HBN.out (by rw [HLN.out]; exact hjz) HANS.out
          clear hL
          rcases hfin with ⟨ha, rfl⟩ | ⟨ha, rfl, rfl, rfl, rfl⟩
          · go_wp2
            go_ret
            exact ⟨rfl, HB4.out⟩
          · go_wp2
            go_ret
            exact ⟨rfl, HB4.out⟩

set_option maxRecDepth 100000 in
set_option maxHeartbeats 1000000 in
theorem law6_nil (s : ByteArray) (ao : Option Addr) (cap : Nat) (i : Int) (w : World) (hnil : ao = none → cap = 0) :
    Calls Try.prog 6 #[.string s, .slice ao 0 cap, .int .i64 i] w fun e w' => e = .returned (.bool true) ∧ Below w.heap.size w w' := by
  have hz := zzBytes18 s ao [] cap i w (.inl rfl) (by simp)
  have hsz := b1Size_any s ao [] cap w (.inl rfl) (by simp)
  have hcl := clone_any ao [] cap w (.inl rfl) (by simp) (fun h => ⟨hnil h, rfl⟩)
  simp only [List.length_nil] at hz hsz hcl
  go_enter Try.func6, Try.ntmps6
  go_wp2_with fail
  refine hz.mono ?_
  clear hz
  rintro e w' ⟨⟨x, rfl⟩, rfl⟩
  cases x
  · go_wp2
    go_ret
    exact ⟨rfl, Below.refl _ _⟩
  go_wp2_with fail
  refine hsz.mono ?_
  clear hsz
  rintro e w' ⟨⟨m, rfl, hm⟩, rfl⟩
  rcases hm with rfl | ⟨hm, hm2⟩
  · go_wp2
    go_ret
    exact ⟨rfl, Below.refl _ _⟩
  have hm3 : ¬ (1048576 < m) := by omega
  have hmd : decide (1048576 < m) = false := decide_eq_false hm3
  have hs20 : s.size ≤ 1048576 := by omega
  clear hm hm2
  go_wp2_with fail
  go_loop [8, 9] (fun t i => i = .int .i64 0 ∧ t = .int .i64 (s.size : Int)) (fun _ _ => 0)
  case atStart => exact ⟨rfl, rfl⟩
  case round =>
    obtain ⟨rfl, rfl⟩ := hrel
    by_cases hi0 : i < 0
    · go_wp2
      go_ret
      exact ⟨rfl, Below.refl _ _⟩
    have hi0d : decide (i < 0) = false := decide_eq_false hi0
    by_cases hi1 : (s.size : Int) ≤ i
    · go_wp2
      go_ret
      exact ⟨rfl, Below.refl _ _⟩
    have hi1d : decide ((s.size : Int) ≤ i) = false := decide_eq_false hi1
    obtain ⟨j, rfl⟩ := Int.eq_ofNat_of_zero_le (show 0 ≤ i by omega)
    have hjz : j < s.size := by omega
    clear hi0 hi1
    go_wp2_with fail
    refine hcl.mono ?_
    clear hcl
    rintro e w2 ⟨ao2, cap2, rfl, hst, hb2⟩
    clear hst
    go_wp2_with fail
    refine (build_empty s ao2 cap2 w2).mono ?_
    rintro e w3 ⟨rfl, hb3⟩
    go_wp2_with fail
    refine (zzlink_start s none j _ (by omega) hjz).mono ?_
    rintro e w4 ⟨rfl, hb4⟩
    have HB24 : Hid (Below w2.heap.size w2 w4) := (hb3.alloc hb3.size _).trans (hb4.mono (by have := hb3.size; simp; omega))
    have HB4 : Hid (Below w'.heap.size w' w4) := hb2.trans (HB24.out.mono hb2.size)
    clear hb2 hb3 hb4
    go_wp2_with fail
    go_loop [14, 15, 16, 17, 18, 19, 20] (fun sp lk of fd wo wt q => q = .int .i64 0 ∧ sp = .int .i64 (s.size : Int)) (fun _ _ _ _ _ _ q => 0)
    case atStart => exact ⟨rfl, rfl⟩
    case round =>
      obtain ⟨rfl, rfl⟩ := hrel
      go_wp2
      go_ret
      exact ⟨rfl, HB4.out⟩

theorem law6_any (s : ByteArray) (ao : Option Addr) (ts : List ByteArray) (cap : Nat) (i : Int) (w : World) (hs : Strs w ao ts) (hl : ts.length ≤ maxLen) (hnil : ao = none → cap = 0) :
    Calls Try.prog 6 #[.string s, .slice ao ts.length cap, .int .i64 i] w fun e w' => e = .returned (.bool true) ∧ Below w.heap.size w w' := by
  rcases hs with rfl | ⟨b, off, rfl, hc⟩
  · exact law6_nil s ao cap i w hnil
  · exact law6_full s b off ts cap i w hc hl
end Go.Proofs.Qxb6603935a
