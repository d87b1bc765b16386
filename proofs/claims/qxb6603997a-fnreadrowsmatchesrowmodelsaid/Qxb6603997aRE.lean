import Derived.Test.Qxb6603997aRC
namespace Go.Proofs.Qxb6603997a
open Go.RowKit

theorem Try.info74 : (Try.prog.info? 74).map (fun i => (i.zero, i.size, i.bytes)) = some (some (.agg #[.int .i64 0, .string ⟨#[]⟩, .int .i64 0, .int .i64 0, .int .u64 0]), 5, 48) := by kernel_rfl

theorem zzTok_any (t : Tok) (w : World) :
    Calls Try.prog 41 #[.int .i64 t.kind, .string t.text, .int .i64 t.pos, .int .i64 t.stop, .int .u64 t.mode] w fun e w' => e = .returned t.val ∧ Below w.heap.size w w' := by
  unfold Tok.val
  go_enter Try.func41, Try.ntmps41
  go_wp2
  refine bodyPost_ret (v := .agg #[.int .i64 t.kind, .string t.text, .int .i64 t.pos, .int .i64 t.stop, .int .u64 t.mode]) (by simp [results, Try.results41, go_sem]) rfl ⟨rfl, ?_⟩
  exact (Below.refl _ w).alloc (Nat.le_refl _) _

theorem tok_any (t : Tok) (w : World) :
    Calls Try.prog 31 #[t.val] w fun e w' => e = .returned t.val ∧ Below w.heap.size w w' := by
  unfold Tok.val
  go_enter Try.func31, Try.ntmps31
  go_wp2_with fail
  refine (zzTok_any t _).mono ?_
  rintro e w2 ⟨rfl, hb2⟩
  unfold Tok.val
  have e0 := hb2.cell (p := ⟨w.heap.size + 1, 0, none⟩) (by simp)
  have e1 := hb2.cell (p := ⟨w.heap.size + 1, 1, none⟩) (by simp)
  have e2 := hb2.cell (p := ⟨w.heap.size + 1, 2, none⟩) (by simp)
  have e3 := hb2.cell (p := ⟨w.heap.size + 1, 3, none⟩) (by simp)
  have e4 := hb2.cell (p := ⟨w.heap.size + 1, 4, none⟩) (by simp)
  have g0 := hb2.frozen (p := ⟨w.heap.size + 1, 0, none⟩) (by simp)
  have g1 := hb2.frozen (p := ⟨w.heap.size + 1, 1, none⟩) (by simp)
  have g2 := hb2.frozen (p := ⟨w.heap.size + 1, 2, none⟩) (by simp)
  have g3 := hb2.frozen (p := ⟨w.heap.size + 1, 3, none⟩) (by simp)
  have g4 := hb2.frozen (p := ⟨w.heap.size + 1, 4, none⟩) (by simp)
  simp [go_sem] at e0 e1 e2 e3 e4 g0 g1 g2 g3 g4
  have HB : Hid (Below w.heap.size w w2) := (((Below.refl _ w).alloc (Nat.le_refl _) _).alloc (by simp) _).trans (hb2.mono (by simp; omega))
  clear hb2
  go_wp2
  refine bodyPost_ret (v := .agg #[.int .i64 t.kind, .string t.text, .int .i64 t.pos, .int .i64 t.stop, .int .u64 t.mode]) (by simp [results, Try.results31, go_sem]; go_simp) rfl ⟨rfl, ?_⟩
  exact (((((HB.out.setCell (by simp) _).setCell (by simp) _).setCell (by simp) _).setCell (by simp) _).setCell (by simp) _)

/-- The punctuation test. -/
def isP (t : Tok) (p : ByteArray) : Bool := (t.kind == 5) && (t.text.toList == p.toList)

theorem isPunct_any (t : Tok) (p : ByteArray) (w : World) :
    Calls Try.prog 42 #[t.val, .string p] w fun e w' => e = .returned (.bool (isP t p)) ∧ Below w.heap.size w w' := by
  unfold Tok.val
  rcases Bool.eq_false_or_eq_true (t.kind == 5) with b0 | b0
  · have HE : Hid (isP t p = (t.text.toList == p.toList)) := by unfold Hid isP; rw [b0, Bool.true_and]
    go_enter Try.func42, Try.ntmps42
    go_wp2
    go_ret
    exact ⟨by rw [HE.out]; rfl, (Below.refl _ _).alloc (Nat.le_refl _) _⟩
  · have HE : Hid (isP t p = false) := by unfold Hid isP; rw [b0, Bool.false_and]
    go_enter Try.func42, Try.ntmps42
    go_wp2
    go_ret
    exact ⟨by rw [HE.out]; rfl, (Below.refl _ _).alloc (Nat.le_refl _) _⟩

theorem rrIsPunct_any (t : Tok) (p : ByteArray) (w : World) :
    Calls Try.prog 35 #[t.val, .string p] w fun e w' => e = .returned (.bool (isP t p)) ∧ Below w.heap.size w w' := by
  unfold Tok.val
  rcases Bool.eq_false_or_eq_true (t.kind == 5) with b0 | b0
  · have HE : Hid (isP t p = (t.text.toList == p.toList)) := by unfold Hid isP; rw [b0, Bool.true_and]
    go_enter Try.func35, Try.ntmps35
    go_wp2
    go_ret
    exact ⟨by rw [HE.out]; rfl, (Below.refl _ _).alloc (Nat.le_refl _) _⟩
  · have HE : Hid (isP t p = false) := by unfold Hid isP; rw [b0, Bool.false_and]
    go_enter Try.func35, Try.ntmps35
    go_wp2
    go_ret
    exact ⟨by rw [HE.out]; rfl, (Below.refl _ _).alloc (Nat.le_refl _) _⟩

set_option maxHeartbeats 1000000 in
theorem toks_any (h : Hd) (T : Nat → Tok) (w : World) (hok : h.ok) (ht : ToksAt w h T) (hn : h.n ≤ 1048576) :
    Calls Try.prog 15 #[h.val] w fun e w' => ∃ h', e = .returned h'.val ∧ Cp w.heap.size h h' ∧ ToksAt w' h' T ∧ Below w.heap.size w w' := by
  obtain ⟨a, n, cap⟩ := h
  obtain ⟨hz, -, -⟩ := hok
  simp only [Hd.val] at *
  rcases a with _ | ⟨b, off, sp⟩
  · obtain ⟨rfl, rfl⟩ := hz rfl
    have heq := fun w => Lib.run_eql_slice_nil (P := Try.prog) w 24 61 none 0 0 0 0 Try.underlying24
    clear ht hz
    go_enter Try.func15, Try.ntmps15
    go_wp2
    go_ret
    exact ⟨⟨none, 0, 0⟩, rfl, Cp.none _, fun k hk => absurd hk (Nat.not_lt_zero _), Below.refl _ _⟩
  · have HT : Hid (ToksAt w ⟨some ⟨b, off, sp⟩, n, cap⟩ T) := ht
    clear ht hz
    have hmk := run_make_n (P := Try.prog) 36 74 _ 5 48 Try.underlying36 Try.info74 .i64 .i64 n (by omega) (by omega)
    have heq := fun w => Lib.run_eql_slice_nil (P := Try.prog) w 24 61 (some ⟨b, off, sp⟩) n cap 0 0 Try.underlying24
    go_enter Try.func15, Try.ntmps15
    go_wp2
    go_loopg [4] n (fun g i wr => ∃ (k : Nat) (f : Nat → Value), k ≤ n ∧ g = n - k ∧ i = .int .i64 k ∧ wr.rowIs w.heap.size 74 (n * 5) f ∧ Hid (∀ j, j < k → FTok f (j * 5) (T j)) ∧ Below w.heap.size w wr)
    case atStart =>
      obtain ⟨f, hf⟩ := rowIs_make w (Value.agg #[.int .i64 0, .string ⟨#[]⟩, .int .i64 0, .int .i64 0, .int .u64 0]).cells (n * 5) 74
      exact ⟨0, f, Nat.zero_le _, rfl, rfl, hf, fun j hj => absurd hj (Nat.not_lt_zero _), (Below.refl _ _).alloc (Nat.le_refl _) _⟩
    case round =>
      obtain ⟨k, f, hk, hg, rfl, hrow, HF, hbel⟩ := hrel
      by_cases hlt : k < n
      · obtain ⟨b', off', he, ht⟩ := HT.out k hlt
        cases he
        obtain ⟨c0, c1, c2, c3, c4⟩ := ht.below hbel
        go_wp2_with fail
        refine (tok_any (T k) _).mono ?_
        rintro e w2 ⟨rfl, hb2⟩
        have hrow2 : w2.rowIs w.heap.size 74 (n * 5) f := hrow.of_block (hb2.block _ hrow.lt)
        have hbel2 : Below w.heap.size w w2 := hbel.trans (hb2.mono hbel.size)
        clear hbel hb2 hrow c0 c1 c2 c3 c4 ht
        have h0 := hrow2.cell (i := k * 5) (by omega)
        have h1 := hrow2.cell (i := k * 5 + 1) (by omega)
        have h2 := hrow2.cell (i := k * 5 + 2) (by omega)
        have h3 := hrow2.cell (i := k * 5 + 3) (by omega)
        have h4 := hrow2.cell (i := k * 5 + 4) (by omega)
        have f0 := hrow2.frozen (k * 5)
        have f1 := hrow2.frozen (k * 5 + 1)
        have f2 := hrow2.frozen (k * 5 + 2)
        have f3 := hrow2.frozen (k * 5 + 3)
        have f4 := hrow2.frozen (k * 5 + 4)
        obtain ⟨f', hf', hn', hs'⟩ := set5 hrow2 (k * 5) (T k)
        have HR : Hid (World.rowIs _ w.heap.size 74 (n * 5) f') := hf'
        have HN : Hid (∀ j, j < k + 1 → FTok f' (j * 5) (T j)) := fun j hj => by
          by_cases e : j = k
          · subst e; exact hn'
          · exact hs' _ _ (by omega) (HF.out j (by omega))
        clear hf' hn' hs' hrow2 HF
        unfold Tok.val
        generalize T k = t at *
        go_wp2
        go_roundg (n - (k + 1))
        case measure => omega
        case rel => exact ⟨k + 1, f', by omega, rfl, by go_num, HR.out, HN.out, ((((hbel2.setCell (Nat.le_refl _) _).setCell (Nat.le_refl _) _).setCell (Nat.le_refl _) _).setCell (Nat.le_refl _) _).setCell (Nat.le_refl _) _⟩
      · have hkn : k = n := by omega
        subst hkn
        go_wp2
        go_ret
        exact ⟨⟨some ⟨w.heap.size, 0, none⟩, k, k⟩, rfl, Cp.made _ hn, fun j hj => ⟨_, 0, rfl, by rw [Nat.zero_add]; exact (HF.out j hj).at hrow (by have : j < k := hj; omega)⟩, hbel⟩
end Go.Proofs.Qxb6603997a
