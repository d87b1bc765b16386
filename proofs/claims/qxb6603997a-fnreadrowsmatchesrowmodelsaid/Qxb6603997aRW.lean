import Derived.Test.Qxb6603997aRV
import Derived.BigCall
import Derived.Maps.AppendAt
namespace Go.Proofs.Qxb6603997a
open Go.RowKit

def os1 (ps : List (Nat × Nat)) : List Value := ps.map fun p => .int .i64 (p.1 : Int)
def cs1 (ps : List (Nat × Nat)) : List Value := ps.map fun p => .int .i64 (p.2 : Int)

/-- What rrModel answers. -/
def MAns (w w' : World) (r : Nat) (ps : List (Nat × Nat)) (e : Ending) : Prop :=
  ∃ v9 v10, e = .returned (.tuple #[.int .i64 (r : Int), v9, v10]) ∧ w'.ownsRow (w.heap.size + 1) 3 1 v9 ps.length (os1 ps) ∧ w'.ownsRow (w.heap.size + 1) 3 1 v10 ps.length (cs1 ps)

/-- Where rrModel's loop stands in memory: two own slices apart, the row of matches. -/
structure St (w wr : World) (n : Nat) (F : Nat → Int) (v9 : Value) (n9 : Nat) (x9 : List Value) (v10 : Value) (n10 : Nat) (x10 : List Value) : Prop where
  o9 : wr.ownsRow (w.heap.size + 1) 3 1 v9 n9 x9
  o10 : wr.ownsRow (w.heap.size + 1) 3 1 v10 n10 x10
  ap : Apart v9 v10
  row : wr.rowIs w.heap.size 3 n (fun j => .int .i64 (F j))
  bel : Below w.heap.size w wr
section
variable {w wr w2 : World} {n : Nat} {F : Nat → Int} {v9 : Value} {n9 : Nat} {x9 : List Value} {v10 : Value} {n10 : Nat} {x10 : List Value}
theorem St.below (h : St w wr n F v9 n9 x9 v10 n10 x10) (hb : Below wr.heap.size wr w2) : St w w2 n F v9 n9 x9 v10 n10 x10 :=
  ⟨ownsRow_of_block h.o9 fun g hg => hb.block g (h.o9.lt g hg).2, ownsRow_of_block h.o10 fun g hg => hb.block g (h.o10.lt g hg).2, h.ap, h.row.of_block (hb.block _ h.row.lt), h.bel.trans (hb.mono h.bel.size)⟩
theorem St.alloc (h : St w wr n F v9 n9 x9 v10 n10 x10) (o : Obj) : St w (wr.alloc o) n F v9 n9 x9 v10 n10 x10 := h.below ((Below.refl _ _).alloc (Nat.le_refl _) _)
theorem St.app9 (h : St w wr n F v9 n9 x9 v10 n10 x10) {v' : Value} {n' : Nat} {x' : List Value} (g1 : w2.ownsRow (w.heap.size + 1) 3 1 v' n' x') (g2 : wr.grownBy w2 v9.ownBlock) (g3 : Fr wr v9 v') : St w w2 n F v' n' x' v10 n10 x10 := by
  refine ⟨g1, ownsRow_of_block h.o10 fun g hg => g2.block g (h.o10.lt g hg).2 fun e => h.ap g e.symm hg, h.ap.fr g3 fun g hg => (h.o10.lt g hg).2, h.row.of_block (g2.block _ h.row.lt fun e => ?_), h.bel.grown g2 h.bel.size fun k hk => ?_⟩
  · have := (h.o9.lt _ e.symm).1; omega
  · have := (h.o9.lt _ hk).1; omega
theorem St.app10 (h : St w wr n F v9 n9 x9 v10 n10 x10) {v' : Value} {n' : Nat} {x' : List Value} (g1 : w2.ownsRow (w.heap.size + 1) 3 1 v' n' x') (g2 : wr.grownBy w2 v10.ownBlock) (g3 : Fr wr v10 v') : St w w2 n F v9 n9 x9 v' n' x' := by
  refine ⟨ownsRow_of_block h.o9 fun g hg => g2.block g (h.o9.lt g hg).2 fun e => h.ap g hg e.symm, g1, (h.ap.symm.fr g3 fun g hg => (h.o9.lt g hg).2).symm, h.row.of_block (g2.block _ h.row.lt fun e => ?_), h.bel.grown g2 h.bel.size fun k hk => ?_⟩
  · have := (h.o10.lt _ e.symm).1; omega
  · have := (h.o10.lt _ hk).1; omega
end

set_option maxRecDepth 100000 in
set_option maxHeartbeats 4000000 in
theorem model_any (h : Hd) (T : Nat → Tok) (i : Nat) (w : World) (ht : ToksAt w h T) (hn : h.n ≤ 1048576) :
    Calls Try.prog 19 #[h.val, .int .i64 i] w fun e w' => MAns w w' (rd T h.n (h.n + 1) i).1 (rd T h.n (h.n + 1) i).2 e ∧ Below w.heap.size w w' := by
  have HM := hid3 (matches_any h T w ht hn)
  obtain ⟨a, n, cap⟩ := h
  have HT : Hid (ToksAt w ⟨a, n, cap⟩ T) := ht
  simp only at hn
  show Calls Try.prog 19 #[.slice a n cap, .int .i64 i] w fun e w' => MAns w w' (rd T n (n + 1) i).1 (rd T n (n + 1) i).2 e ∧ Below w.heap.size w w'
  obtain ⟨r, hr⟩ : ∃ r, r = (rd T n (n + 1) i).1 := ⟨_, rfl⟩
  obtain ⟨ps, hps⟩ : ∃ ps, ps = (rd T n (n + 1) i).2 := ⟨_, rfl⟩
  have HRD : Hid (rd T n (n + 1) i = (r, ps)) := by unfold Hid; rw [hr, hps]
  rw [← hr, ← hps]
  clear ht hr hps
  unfold Hd.val at HM
  obtain ⟨i0, hi, hz0, hz1, hz2⟩ := info_parts Try.info3
  go_enter Try.func19, Try.ntmps19
  go_wp2_with (go_at_call 34; refine HM.out.mono ?_; rintro e w1 ⟨F, rfl, hrow, hF, hb1⟩)
  have HF : Hid (∀ j, j < n → opn T j = true → F j = cl T (n - j) 0 j) := hF
  have hw1 := hrow.lt
  clear hF HM
  go_loopg [9, 10, 11] (n - i) (fun g v9 v10 v11 wr => ∃ (k f : Nat) (acc rest : List (Nat × Nat)), g = n - k ∧ v11 = .int .i64 k ∧ Hid (acc ++ rest = ps ∧ rd T n f k = (r, rest) ∧ n - k ≤ f) ∧ acc.length ≤ k ∧ acc.length ≤ n ∧ wr.ownsRow (w.heap.size + 1) 3 1 v9 acc.length (os1 acc) ∧ wr.ownsRow (w.heap.size + 1) 3 1 v10 acc.length (cs1 acc) ∧ Apart v9 v10 ∧ wr.rowIs w.heap.size 3 n (fun j => .int .i64 (F j)) ∧ Below w.heap.size w wr)
  case atStart => exact ⟨i, n + 1, [], ps, rfl, rfl, ⟨rfl, HRD.out, by omega⟩, Nat.zero_le _, Nat.zero_le _, World.ownsRow_nil _ _ _ _, World.ownsRow_nil _ _ _ _, (fun g hg => by cases hg), hrow, hb1⟩
  case round =>
    clear hrow hb1 hw1
    obtain ⟨k, f, acc, rest, hg, rfl, HA, hak, han, ho9, ho10, hap, hrow, hbel⟩ := hrel
    by_cases hlt : k < n
    · obtain ⟨b, off, he, hc⟩ := HT.out k hlt
      cases he
      obtain ⟨c0, c1, c2, c3, c4⟩ := hc.below hbel
      clear hc
      have P1 := hid3 (rrIsPunct_any (T k) ⟨#[40]⟩ wr)
      have hltI : (k : Int) < (n : Int) := by omega
      rcases Bool.eq_false_or_eq_true (opn T k) with hop | hop
      · have hop' : isP (T k) ⟨#[40]⟩ = true := hop
        unfold Tok.val at P1
        rw [hop'] at P1
        have hFk := HF.out k hlt hop
        have hck := cl_at hlt hop
        rw [← hFk] at hck
        have hfk := hrow.cell hlt
        rcases hck with hm | ⟨c, hcF, hkc, hcn⟩
        · have HS : Hid (acc = ps ∧ r = n) := by
            obtain ⟨q1, q2, q3⟩ := HA.out
            obtain ⟨f', rfl⟩ : ∃ f', f = f' + 1 := ⟨f - 1, by omega⟩
            rw [rd_open hlt hop (by rw [← hFk]; exact hm)] at q2
            cases q2
            exact ⟨by simpa using q1, rfl⟩
          rw [hm] at hfk
          clear hop hop' hFk
          go_wp2_with (go_at_call 35; refine P1.out.mono ?_; rintro e w2 ⟨rfl, hb2⟩; have y0 := cell_b hb2 hfk)
          obtain ⟨q1, q2⟩ := HS.out
          have m9 := ownsRow_of_block ho9 (fun g hg => hb2.block g (ho9.lt g hg).2)
          have m10 := ownsRow_of_block ho10 (fun g hg => hb2.block g (ho10.lt g hg).2)
          rw [q1] at m9 m10
          exact bodyPost_ret (v := .tuple #[.int .i64 (n : Int), u9, u10]) (by simp [results, Try.results19, go_sem]) rfl ⟨⟨u9, u10, by rw [q2], m9, m10⟩, hbel.trans (hb2.mono hbel.size)⟩
        · rw [hcF] at hfk
          have HC2 : Hid (cl T (n - k) 0 k = c) := by unfold Hid; rw [← hFk]; exact hcF
          have HS0 := hid3 (St.mk ho9 ho10 hap hrow hbel)
          have hkcI : (k : Int) < (c : Int) := by omega
          clear hop' hFk hcF ho9 ho10 hap hrow hbel
          go_upto_region 12 with (first
            | (go_at_call_of 35 (ByteArray.mk #[40]); (refine P1.out.mono ?_; rintro e w2 ⟨rfl, hb2⟩; have S2 := hid3 ((HS0.out.below hb2).alloc (.cells #[.int .i64 k] 3)); have y0 := cell_b hb2 hfk))
            | (at_builtin; refine wpList_append_fr _ rfl (.tmp 37) (.tmp 39) 25 rfl (w.heap.size + 1) 3 i0 (.int .i64 0) 1 8 Try.underlying25 hi hz0 hz1 hz2 rfl (by decide) u9 acc.length (os1 acc) rfl S2.out.o9 ⟨w2.heap.size, 0, none⟩ 1 1 [.int .i64 k] rfl rfl (cell_one_new _ _ _) (fun x hx => by simp at hx; subst hx; rfl) (by unfold maxLen; omega) (by omega) (Nat.succ_le_of_lt S2.out.row.lt) (by decide) ?_; intro v9' w3 g1 g2 g3; have S3 := hid3 ((S2.out.app9 g1 g2 g3).alloc (.cells #[.int .i64 c] 3)); clear g1 g2 g3)
            | (at_builtin; refine wpList_append_fr _ rfl (.tmp 41) (.tmp 43) 25 rfl (w.heap.size + 1) 3 i0 (.int .i64 0) 1 8 Try.underlying25 hi hz0 hz1 hz2 rfl (by decide) u10 acc.length (cs1 acc) rfl S3.out.o10 ⟨w3.heap.size, 0, none⟩ 1 1 [.int .i64 c] rfl rfl (cell_one_new _ _ _) (fun x hx => by simp at hx; subst hx; rfl) (by unfold maxLen; omega) (by omega) (Nat.succ_le_of_lt S3.out.row.lt) (by decide) ?_; intro v10' w5 g1 g2 g3; have S5 := hid3 (S3.out.app10 g1 g2 g3); clear g1 g2 g3))
          have E9 : os1 acc ++ [Value.int .i64 (k : Int)] = os1 (acc ++ [(k, c)]) := by simp [os1]
          have E10 : cs1 acc ++ [Value.int .i64 (c : Int)] = cs1 (acc ++ [(k, c)]) := by simp [cs1]
          have EL : acc.length + 1 = (acc ++ [(k, c)]).length := by simp
          have HE9 := hid3 E9
          have HE10 := hid3 E10
          have HEL := hid3 EL
          clear E9 E10 EL S2 S3 y0 hfk c0 c1 c2 c3 c4 P1 HS0
          by_cases hcl : c + 1 < n
          · obtain ⟨b2, off2, he2, hc2⟩ := HT.out (c + 1) hcl
            cases he2
            obtain ⟨c0, c1, c2, c3, c4⟩ := hc2.keep (Below.keep S5.out.bel (fun _ => True)) trivial
            clear hc2
            have hclI : (c : Int) + 1 < (n : Int) := by omega
            have P2 := hid3 (rrIsPunct_any (T (c + 1)) ⟨#[44]⟩ w5)
            unfold Tok.val at P2
            rcases Bool.eq_false_or_eq_true (cma T (c + 1)) with hcm | hcm
            · have hcm' : isP (T (c + 1)) ⟨#[44]⟩ = true := hcm
              rw [hcm'] at P2
              have HE : Hid (∃ f' rest', acc ++ [(k, c)] ++ rest' = ps ∧ rd T n f' (c + 2) = (r, rest') ∧ n - (c + 2) ≤ f') := by
                obtain ⟨q1, q2, q3⟩ := HA.out
                obtain ⟨f', rfl⟩ : ∃ f', f = f' + 1 := ⟨f - 1, by omega⟩
                rw [rd_more hlt hop HC2.out hcl hcm] at q2
                refine ⟨f', (rd T n f' (c + 2)).2, ?_, ?_, by omega⟩
                · rw [← q1, ← (Prod.mk.inj q2).2]; simp
                · rw [← (Prod.mk.inj q2).1]
              clear hcm hcm' hop
              go_wp2_with (go_at_call 35; refine P2.out.mono ?_; rintro e w6 ⟨rfl, hb6⟩)
              go_roundg (n - (c + 2))
              case measure => omega
              case rel =>
                obtain ⟨f', rest', q1, q2, q3⟩ := HE.out
                have SS := S5.out.below hb6
                rw [HE9.out, HE10.out, HEL.out] at SS
                exact ⟨c + 2, f', acc ++ [(k, c)], rest', rfl, by go_num, ⟨q1, q2, q3⟩, by rw [← HEL.out]; omega, by rw [← HEL.out]; omega, SS.o9, SS.o10, SS.ap, SS.row, SS.bel⟩
            · have hcm' : isP (T (c + 1)) ⟨#[44]⟩ = false := hcm
              rw [hcm'] at P2
              have HE : Hid (acc ++ [(k, c)] = ps ∧ r = c + 1) := by
                obtain ⟨q1, q2, q3⟩ := HA.out
                obtain ⟨f', rfl⟩ : ∃ f', f = f' + 1 := ⟨f - 1, by omega⟩
                rw [rd_last hlt hop HC2.out (by simp [hcm])] at q2
                cases q2
                exact ⟨q1, rfl⟩
              clear hcm hcm' hop
              go_wp2_with (go_at_call 35; refine P2.out.mono ?_; rintro e w6 ⟨rfl, hb6⟩)
              have SS := S5.out.below hb6
              rw [HE9.out, HE10.out, HEL.out, HE.out.1] at SS
              exact bodyPost_ret (v := .tuple #[.int .i64 ((c : Int) + 1), v9', v10']) (by simp [results, Try.results19, go_sem]) rfl ⟨⟨v9', v10', by rw [HE.out.2]; rfl, SS.o9, SS.o10⟩, SS.bel⟩
          · have dcl : decide ((c : Int) + 1 < (n : Int)) = false := decide_eq_false (by omega)
            have HE : Hid (acc ++ [(k, c)] = ps ∧ r = c + 1) := by
              obtain ⟨q1, q2, q3⟩ := HA.out
              obtain ⟨f', rfl⟩ : ∃ f', f = f' + 1 := ⟨f - 1, by omega⟩
              rw [rd_last hlt hop HC2.out (by omega)] at q2
              cases q2
              exact ⟨q1, rfl⟩
            go_wp2
            have SS := S5.out
            rw [HE9.out, HE10.out, HEL.out, HE.out.1] at SS
            exact bodyPost_ret (v := .tuple #[.int .i64 ((c : Int) + 1), v9', v10']) (by simp [results, Try.results19, go_sem]) rfl ⟨⟨v9', v10', by rw [HE.out.2]; rfl, SS.o9, SS.o10⟩, SS.bel⟩
      · have hop' : isP (T k) ⟨#[40]⟩ = false := hop
        unfold Tok.val at P1
        rw [hop'] at P1
        have HS : Hid (acc = ps ∧ r = k) := by
          obtain ⟨q1, q2, q3⟩ := HA.out
          rw [rd_stop f k (by simp [hop])] at q2
          cases q2
          exact ⟨by simpa using q1, rfl⟩
        clear hop hop'
        go_wp2_with (go_at_call 35; refine P1.out.mono ?_; rintro e w2 ⟨rfl, hb2⟩)
        obtain ⟨q1, q2⟩ := HS.out
        have m9 := ownsRow_of_block ho9 (fun g hg => hb2.block g (ho9.lt g hg).2)
        have m10 := ownsRow_of_block ho10 (fun g hg => hb2.block g (ho10.lt g hg).2)
        rw [q1] at m9 m10
        exact bodyPost_ret (v := .tuple #[.int .i64 (k : Int), u9, u10]) (by simp [results, Try.results19, go_sem]) rfl ⟨⟨u9, u10, by rw [q2], m9, m10⟩, hbel.trans (hb2.mono hbel.size)⟩
    · have d' : decide ((k : Int) < (n : Int)) = false := decide_eq_false (by omega)
      have HS : Hid (acc = ps ∧ r = k) := by
        obtain ⟨q1, q2, q3⟩ := HA.out
        rw [rd_stop f k (by omega)] at q2
        cases q2
        exact ⟨by simpa using q1, rfl⟩
      go_wp2
      obtain ⟨q1, q2⟩ := HS.out
      rw [q1] at ho9 ho10
      exact bodyPost_ret (v := .tuple #[.int .i64 (k : Int), u9, u10]) (by simp [results, Try.results19, go_sem]) rfl ⟨⟨u9, u10, by rw [q2], ho9, ho10⟩, hbel⟩
end Go.Proofs.Qxb6603997a
