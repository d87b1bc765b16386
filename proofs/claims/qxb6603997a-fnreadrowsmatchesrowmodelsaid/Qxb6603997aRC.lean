import Derived.Test.Qxb6603997aRM
namespace Go.Proofs.Qxb6603997a
open Go.RowKit

/-- make, of whatever elements. -/
theorem run_make_n {P : Program} (t e : TypeId) (z : Value) (size bytes : Nat) (ht : P.underlying t = some (.slice e)) (hinfo : (P.info? e).map (fun i => (i.zero, i.size, i.bytes)) = some (some z, size, bytes))
    (kl kc : IntKind) (n : Nat) (hbytes : bytes * n ≤ 281474976710656) (h63 : n ≤ 9223372036854775807) (w : World) :
    (Instr.makeSlice t (.int kl (n : Int)) (.int kc (n : Int))).run P w = .ok (.slice (some ⟨w.heap.size, 0, none⟩) n n) (w.alloc (.cells (madeCells z.cells (n * size)) e)) := by
  obtain ⟨i, hi, hzz⟩ := Option.map_eq_some_iff.1 hinfo
  simp only [Prod.mk.injEq] at hzz
  obtain ⟨hz, hs, hb⟩ := hzz
  have hb' : (i.bytes : Int) * (n : Int) ≤ 281474976710656 := by
    have h : ((i.bytes * n : Nat) : Int) ≤ 281474976710656 := by rw [hb]; omega
    rwa [Int.natCast_mul] at h
  have hr := run_make (P := P) w t e i z ht hi hz kl kc n n (by omega) (Int.le_refl _) hb' (by omega)
  simp only [Int.toNat_natCast, hs] at hr
  exact hr

theorem rowIs_make (w : World) (cs : Array Value) (n : Nat) (e : TypeId) : ∃ f, (w.alloc (.cells (madeCells cs n) e)).rowIs w.heap.size e n f := by
  refine ⟨fun i => (madeCells cs n)[i]?.getD undef, _, Deep.blk_alloc_new _ _, size_madeCells _ _, fun i hi => ?_⟩
  have : i < (madeCells cs n).size := by rw [size_madeCells]; exact hi
  simp [this]

/-- Cells by the index hold a token. -/
structure FTok (f : Nat → Value) (o : Nat) (t : Tok) : Prop where
  c0 : f o = .int .i64 t.kind
  c1 : f (o + 1) = .string t.text
  c2 : f (o + 2) = .int .i64 t.pos
  c3 : f (o + 3) = .int .i64 t.stop
  c4 : f (o + 4) = .int .u64 t.mode
theorem FTok.at {w : World} {b e n : Nat} {f : Nat → Value} {o : Nat} {t : Tok} (h : FTok f o t) (hr : w.rowIs b e n f) (ho : o + 5 ≤ n) : TokAt w b o t :=
  ⟨(hr.cell (by omega)).trans (congrArg some h.c0), (hr.cell (by omega)).trans (congrArg some h.c1), (hr.cell (by omega)).trans (congrArg some h.c2), (hr.cell (by omega)).trans (congrArg some h.c3), (hr.cell (by omega)).trans (congrArg some h.c4)⟩

/-- A token is stored. -/
theorem set5 {w : World} {b e n : Nat} {f : Nat → Value} (hr : w.rowIs b e n f) (o : Nat) (t : Tok) :
    ∃ f', (((((w.setCell ⟨b, o, none⟩ (.int .i64 t.kind)).setCell ⟨b, o + 1, none⟩ (.string t.text)).setCell ⟨b, o + 2, none⟩ (.int .i64 t.pos)).setCell ⟨b, o + 3, none⟩ (.int .i64 t.stop)).setCell ⟨b, o + 4, none⟩ (.int .u64 t.mode)).rowIs b e n f' ∧
      FTok f' o t ∧ ∀ j u, j + 5 ≤ o → FTok f j u → FTok f' j u := by
  refine ⟨_, ((((hr.set o _).set (o + 1) _).set (o + 2) _).set (o + 3) _).set (o + 4) _, ?_, fun j u hj q => ?_⟩
  · constructor <;> simp
  · obtain ⟨q0, q1, q2, q3, q4⟩ := q
    constructor
    · simp only [show ¬ j = o + 4 by omega, show ¬ j = o + 3 by omega, show ¬ j = o + 2 by omega, show ¬ j = o + 1 by omega, show ¬ j = o by omega, if_false]; exact q0
    · simp only [show ¬ j + 1 = o + 4 by omega, show ¬ j + 1 = o + 3 by omega, show ¬ j + 1 = o + 2 by omega, show ¬ j + 1 = o + 1 by omega, show ¬ j + 1 = o by omega, if_false]; exact q1
    · simp only [show ¬ j + 2 = o + 4 by omega, show ¬ j + 2 = o + 3 by omega, show ¬ j + 2 = o + 2 by omega, show ¬ j + 2 = o + 1 by omega, show ¬ j + 2 = o by omega, if_false]; exact q2
    · simp only [show ¬ j + 3 = o + 4 by omega, show ¬ j + 3 = o + 3 by omega, show ¬ j + 3 = o + 2 by omega, show ¬ j + 3 = o + 1 by omega, show ¬ j + 3 = o by omega, if_false]; exact q3
    · simp only [show ¬ j + 4 = o + 4 by omega, show ¬ j + 4 = o + 3 by omega, show ¬ j + 4 = o + 2 by omega, show ¬ j + 4 = o + 1 by omega, show ¬ j + 4 = o by omega, if_false]; exact q4

theorem Try.info61 : (Try.prog.info? 61).map (fun i => (i.zero, i.size, i.bytes)) = some (some (.agg #[.int .i64 0, .string ⟨#[]⟩, .int .i64 0, .int .i64 0, .int .u64 0]), 5, 48) := by kernel_rfl

set_option maxHeartbeats 1000000 in
theorem cloneToks_any (h : Hd) (T : Nat → Tok) (w : World) (hok : h.ok) (ht : ToksAt w h T) (hn : h.n ≤ 1048576) :
    Calls Try.prog 10 #[h.val] w fun e w' => ∃ h', e = .returned h'.val ∧ Cp w.heap.size h h' ∧ ToksAt w' h' T ∧ Below w.heap.size w w' := by
  obtain ⟨a, n, cap⟩ := h
  obtain ⟨hz, -, -⟩ := hok
  simp only [Hd.val] at *
  rcases a with _ | ⟨b, off, sp⟩
  · obtain ⟨rfl, rfl⟩ := hz rfl
    have heq := fun w => Lib.run_eql_slice_nil (P := Try.prog) w 24 61 none 0 0 0 0 Try.underlying24
    clear ht hz
    go_enter Try.func10, Try.ntmps10
    go_wp2
    go_ret
    exact ⟨⟨none, 0, 0⟩, rfl, Cp.none _, fun k hk => absurd hk (Nat.not_lt_zero _), Below.refl _ _⟩
  · have HT : Hid (ToksAt w ⟨some ⟨b, off, sp⟩, n, cap⟩ T) := ht
    clear ht hz
    have hmk := run_make_n (P := Try.prog) 24 61 _ 5 48 Try.underlying24 Try.info61 .i64 .i64 n (by omega) (by omega)
    have heq := fun w => Lib.run_eql_slice_nil (P := Try.prog) w 24 61 (some ⟨b, off, sp⟩) n cap 0 0 Try.underlying24
    go_enter Try.func10, Try.ntmps10
    go_wp2
    go_loopg [4] n (fun g i wr => ∃ (k : Nat) (f : Nat → Value), k ≤ n ∧ g = n - k ∧ i = .int .i64 k ∧ wr.rowIs w.heap.size 61 (n * 5) f ∧ Hid (∀ j, j < k → FTok f (j * 5) (T j)) ∧ Below w.heap.size w wr)
    case atStart =>
      obtain ⟨f, hf⟩ := rowIs_make w (Value.agg #[.int .i64 0, .string ⟨#[]⟩, .int .i64 0, .int .i64 0, .int .u64 0]).cells (n * 5) 61
      exact ⟨0, f, Nat.zero_le _, rfl, rfl, hf, fun j hj => absurd hj (Nat.not_lt_zero _), (Below.refl _ _).alloc (Nat.le_refl _) _⟩
    case round =>
      obtain ⟨k, f, hk, hg, rfl, hrow, HF, hbel⟩ := hrel
      by_cases hlt : k < n
      · obtain ⟨b', off', he, ht⟩ := HT.out k hlt
        cases he
        obtain ⟨c0, c1, c2, c3, c4⟩ := ht.below hbel
        have h0 := hrow.cell (i := k * 5) (by omega)
        have h1 := hrow.cell (i := k * 5 + 1) (by omega)
        have h2 := hrow.cell (i := k * 5 + 2) (by omega)
        have h3 := hrow.cell (i := k * 5 + 3) (by omega)
        have h4 := hrow.cell (i := k * 5 + 4) (by omega)
        have f0 := hrow.frozen (k * 5)
        have f1 := hrow.frozen (k * 5 + 1)
        have f2 := hrow.frozen (k * 5 + 2)
        have f3 := hrow.frozen (k * 5 + 3)
        have f4 := hrow.frozen (k * 5 + 4)
        obtain ⟨f', hf', hn', hs'⟩ := set5 hrow (k * 5) (T k)
        have HR : Hid (World.rowIs _ w.heap.size 61 (n * 5) f') := hf'
        have HN : Hid (∀ j, j < k + 1 → FTok f' (j * 5) (T j)) := fun j hj => by
          by_cases e : j = k
          · subst e; exact hn'
          · exact hs' _ _ (by omega) (HF.out j (by omega))
        clear hf' hn' hs' ht hrow HF
        generalize T k = t at *
        go_wp2
        go_roundg (n - (k + 1))
        case measure => omega
        case rel => exact ⟨k + 1, f', by omega, rfl, by go_num, HR.out, HN.out, ((((hbel.setCell (Nat.le_refl _) _).setCell (Nat.le_refl _) _).setCell (Nat.le_refl _) _).setCell (Nat.le_refl _) _).setCell (Nat.le_refl _) _⟩
      · have hkn : k = n := by omega
        subst hkn
        go_wp2
        go_ret
        exact ⟨⟨some ⟨w.heap.size, 0, none⟩, k, k⟩, rfl, Cp.made _ hn, fun j hj => ⟨_, 0, rfl, by rw [Nat.zero_add]; exact (HF.out j hj).at hrow (by have : j < k := hj; omega)⟩, hbel⟩
end Go.Proofs.Qxb6603997a
