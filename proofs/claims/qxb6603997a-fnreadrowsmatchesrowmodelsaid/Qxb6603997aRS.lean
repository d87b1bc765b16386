import Derived.Test.Qxb6603997aRR
namespace Go.Proofs.Qxb6603997a
open Go.RowKit

set_option maxRecDepth 100000 in
set_option maxHeartbeats 2000000 in
theorem matches_any (h : Hd) (T : Nat → Tok) (w : World) (ht : ToksAt w h T) (hn : h.n ≤ 1048576) :
    Calls Try.prog 34 #[h.val] w fun e w' => ∃ F : Nat → Int, e = .returned (.slice (some ⟨w.heap.size, 0, none⟩) h.n h.n) ∧ w'.rowIs w.heap.size 3 h.n (fun j => .int .i64 (F j)) ∧ (∀ j, j < h.n → opn T j = true → F j = cl T (h.n - j) 0 j) ∧ Below w.heap.size w w' := by
  obtain ⟨a, n, cap⟩ := h
  have HT : Hid (ToksAt w ⟨a, n, cap⟩ T) := ht
  simp only at hn
  show Calls Try.prog 34 #[.slice a n cap] w fun e w' => ∃ F : Nat → Int, e = .returned (.slice (some ⟨w.heap.size, 0, none⟩) n n) ∧ w'.rowIs w.heap.size 3 n (fun j => .int .i64 (F j)) ∧ (∀ j, j < n → opn T j = true → F j = cl T (n - j) 0 j) ∧ Below w.heap.size w w'
  clear ht
  have hmk := run_make_row' (P := Try.prog) 25 3 (.int .i64 0) 8 Try.underlying25 Try.info3 rfl .i64 .i64 n (by omega) (by omega)
  go_enter Try.func34, Try.ntmps34
  go_wp2
  go_loopg [6, 7] n (fun g v6 v7 wr => ∃ (k top : Nat) (F : Nat → Int) (st : Nat → Nat), k ≤ n ∧ g = n - k ∧ v6 = .int .i64 top ∧ v7 = .int .i64 k ∧ wr.rowIs w.heap.size 3 n (fun j => .int .i64 (F j)) ∧ (∃ G : Nat → Int, wr.rowIs (w.heap.size + 1) 3 n (fun j => .int .i64 (G j)) ∧ ∀ i, i < top → G i = st i) ∧ MInv T n k top F st ∧ Below w.heap.size w wr)
  case atStart =>
    refine ⟨0, 0, fun _ => 0, fun _ => 0, Nat.zero_le _, rfl, rfl, rfl, (World.rowIs_made w (.int .i64 0) n 3).alloc _, ⟨fun _ => 0, ?_, fun i hi => absurd hi (Nat.not_lt_zero _)⟩, ⟨fun i hi => absurd hi (Nat.not_lt_zero _), fun i j _ hj => absurd hj (Nat.not_lt_zero _), fun i hi => absurd hi (Nat.not_lt_zero _), fun i hi => absurd hi (Nat.not_lt_zero _), fun j hj => absurd hj (Nat.not_lt_zero _), Nat.le_refl _⟩, ((Below.refl _ _).alloc (Nat.le_refl _) _).alloc (by simp) _⟩
    have := World.rowIs_made (w.alloc (.cells (madeCells #[.int .i64 0] n) 3)) (.int .i64 0) n 3
    simpa using this
  case round =>
    obtain ⟨k, top, F, st, hk, hg, rfl, rfl, hrow, ⟨G, hrow2, hG⟩, hinv, hbel⟩ := hrel
    have hle := hinv.le
    have HINV : Hid (MInv T n k top F st) := hinv
    have HG : Hid (∀ i, i < top → G i = st i) := hG
    clear hinv hG
    by_cases hlt : k < n
    · obtain ⟨b, off, he, hc⟩ := HT.out k hlt
      cases he
      have z0 := hrow.cell hlt
      have y0 := hrow.frozen k
      have hw1 := hrow.lt
      have hw2 := hrow2.lt
      obtain ⟨w1, hw1e⟩ : ∃ w1, w1 = wr.setCell ⟨w.heap.size, k, none⟩ (.int .i64 (-1)) := ⟨_, rfl⟩
      have hr1 : w1.rowIs w.heap.size 3 n (fun j => .int .i64 (if j = k then -1 else F j)) := by
        rw [hw1e]
        exact (hrow.set k _).congr fun j _ => by
          by_cases e : j = k
          · simp [e]
          · simp [e]
      have hr2 : w1.rowIs (w.heap.size + 1) 3 n (fun j => .int .i64 (G j)) := by rw [hw1e]; exact hrow2.setOther (by simp) _
      have hb1 : Below w.heap.size w w1 := by rw [hw1e]; exact hbel.setCell (Nat.le_refl _) _
      have QB : Hid (TokAt w1 b (off + k * 5) (T k)) := hc.below hb1
      obtain ⟨c0, c1, c2, c3, c4⟩ := hc.below hb1
      clear hc
      have P1 := hid3 (rrIsPunct_any (T k) ⟨#[40]⟩ w1)
      have P2 := hid3 (fun w2 => rrIsPunct_any (T k) ⟨#[41]⟩ w2)
      go_upto_region 9 with fail
      rw [← hw1e]
      clear hw1e z0 y0 hrow hrow2 hbel
      rcases Bool.eq_false_or_eq_true (opn T k) with ho | ho
      · have HN : Hid (MInv T n (k + 1) (top + 1) (fun j => if j = k then -1 else F j) (fun i => if i = top then k else st i)) := HINV.out.push hlt ho
        have ho' : isP (T k) ⟨#[40]⟩ = true := ho
        unfold Tok.val at P1 P2
        rw [ho'] at P1
        clear ho ho'
        go_wp2_with (go_at_call 35; refine P1.out.mono ?_; rintro e w2 ⟨rfl, hb2⟩; have s2 := hr2.of_block (hb2.block _ hr2.lt); have s1 := hr1.of_block (hb2.block _ hr1.lt); have z1 := s2.cell (i := top) (by omega); have y1 := s2.frozen top)
        go_roundg (n - (k + 1))
        case measure => omega
        case rel =>
          refine ⟨k + 1, top + 1, _, _, by omega, rfl, by go_num, by go_num, s1.setOther (by simp) _, ⟨fun j => if j = top then (k : Int) else G j, ?_, fun i hi => ?_⟩, HN.out, (hb1.trans (hb2.mono hb1.size)).setCell (by simp) _⟩
          · exact (s2.set top _).congr fun j _ => by
              by_cases e : j = top
              · simp [e]
              · simp [e]
          · show (if i = top then (k : Int) else G i) = ((if i = top then k else st i : Nat) : Int)
            by_cases e : i = top
            · rw [if_pos e, if_pos e]
            · rw [if_neg e, if_neg e]; exact HG.out i (by omega)
      · have ho' : isP (T k) ⟨#[40]⟩ = false := ho
        by_cases ht0 : top = 0
        · subst ht0
          have HN : Hid (MInv T n (k + 1) 0 (fun j => if j = k then -1 else F j) st) := HINV.out.pass hlt ho (.inr rfl)
          unfold Tok.val at P1 P2
          rw [ho'] at P1
          clear ho ho'
          go_wp2_with (go_at_call_of 35 (ByteArray.mk #[40]); refine P1.out.mono ?_; rintro e w2 ⟨rfl, hb2⟩; obtain ⟨x0, x1, x2, x3, x4⟩ := QB.out.below hb2; have s2 := hr2.of_block (hb2.block _ hr2.lt); have s1 := hr1.of_block (hb2.block _ hr1.lt))
          go_roundg (n - (k + 1))
          case measure => omega
          case rel => exact ⟨k + 1, 0, _, st, by omega, rfl, rfl, by go_num, s1, ⟨G, s2, fun i hi => absurd hi (Nat.not_lt_zero _)⟩, HN.out, hb1.trans (hb2.mono hb1.size)⟩
        · rcases Bool.eq_false_or_eq_true (cls T k) with hq | hq
          · have hq' : isP (T k) ⟨#[41]⟩ = true := hq
            obtain ⟨m, rfl⟩ : ∃ m, top = m + 1 := ⟨top - 1, by omega⟩
            have HN : Hid (MInv T n (k + 1) m (fun j => if j = st m then (k : Int) else if j = k then -1 else F j) st) := HINV.out.pop hlt ho hq
            have hst := HINV.out.lt m (by omega)
            have hGm := HG.out m (by omega)
            unfold Tok.val at P1 P2
            rw [ho'] at P1
            rw [hq'] at P2
            clear ho ho' hq hq' ht0
            have hpos : (0 : Int) < ((m + 1 : Nat) : Int) := by omega
            have e1 : (((m + 1 : Nat) : Int) - 1) = (m : Int) := by omega
            go_wp2_with (first
              | (go_at_call_of 35 (ByteArray.mk #[40]); refine P1.out.mono ?_; rintro e w2 ⟨rfl, hb2⟩; obtain ⟨x0, x1, x2, x3, x4⟩ := QB.out.below hb2; have s2 := hr2.of_block (hb2.block _ hr2.lt); have s1 := hr1.of_block (hb2.block _ hr1.lt))
              | (go_at_call_of 35 (ByteArray.mk #[41]); refine (P2.out _).mono ?_; rintro e w3 ⟨rfl, hb3⟩; have t2 := s2.of_block (hb3.block _ s2.lt); have t1 := s1.of_block (hb3.block _ s1.lt); have z1 := t2.cell (i := m) (by omega); rw [hGm] at z1; have z2 := t1.cell (i := st m) (by omega); have y2 := t1.frozen (st m)))
            go_roundg (n - (k + 1))
            case measure => omega
            case rel =>
              refine ⟨k + 1, m, _, st, by omega, rfl, by go_num, by go_num, ?_, ⟨G, t2.setOther (by simp) _, fun i hi => HG.out i (by omega)⟩, HN.out, ((hb1.trans (hb2.mono hb1.size)).trans (hb3.mono (Nat.le_trans hb1.size hb2.size))).setCell (Nat.le_refl _) _⟩
              exact (t1.set (st m) _).congr fun j _ => by
                by_cases e : j = st m
                · simp [e]
                · simp [e]
          · have hq' : isP (T k) ⟨#[41]⟩ = false := hq
            have HN : Hid (MInv T n (k + 1) top (fun j => if j = k then -1 else F j) st) := HINV.out.pass hlt ho (.inl hq)
            unfold Tok.val at P1 P2
            rw [ho'] at P1
            rw [hq'] at P2
            clear ho ho' hq hq'
            have hpos : (0 : Int) < (top : Int) := by omega
            go_wp2_with (first
              | (go_at_call_of 35 (ByteArray.mk #[40]); refine P1.out.mono ?_; rintro e w2 ⟨rfl, hb2⟩; obtain ⟨x0, x1, x2, x3, x4⟩ := QB.out.below hb2; have s2 := hr2.of_block (hb2.block _ hr2.lt); have s1 := hr1.of_block (hb2.block _ hr1.lt))
              | (go_at_call_of 35 (ByteArray.mk #[41]); refine (P2.out _).mono ?_; rintro e w3 ⟨rfl, hb3⟩; have t2 := s2.of_block (hb3.block _ s2.lt); have t1 := s1.of_block (hb3.block _ s1.lt)))
            go_roundg (n - (k + 1))
            case measure => omega
            case rel => exact ⟨k + 1, top, _, st, by omega, rfl, rfl, by go_num, t1, ⟨G, t2, HG.out⟩, HN.out, (hb1.trans (hb2.mono hb1.size)).trans (hb3.mono (Nat.le_trans hb1.size hb2.size))⟩
    · have d' : decide ((k : Int) < (n : Int)) = false := decide_eq_false (by omega)
      have hkn : k = n := by omega
      subst hkn
      have HF : Hid (∀ j, j < k → opn T j = true → F j = cl T (k - j) 0 j) := fun j hj ho => HINV.out.fin j hj ho
      go_wp2
      go_ret
      exact ⟨F, rfl, hrow, HF.out, hbel⟩
end Go.Proofs.Qxb6603997a
