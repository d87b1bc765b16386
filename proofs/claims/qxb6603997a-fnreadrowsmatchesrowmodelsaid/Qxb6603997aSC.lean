import Derived.Test.Qxb6603997aSF
import Derived.Test.Qxb6603997aRP
import Derived.Test.Qxb6603997aSB
namespace Go.Proofs.Qxb6603997a
open Go.RowKit

theorem os1_get (ps : List (Nat × Nat)) {k : Nat} (h : k < ps.length) : (os1 ps)[k]? = some (.int .i64 ((ps.getD k (0, 0)).1 : Int)) := by
  unfold os1; rw [List.getElem?_map, List.getD_eq_getElem?_getD, List.getElem?_eq_getElem h]; rfl
theorem cs1_get (ps : List (Nat × Nat)) {k : Nat} (h : k < ps.length) : (cs1 ps)[k]? = some (.int .i64 ((ps.getD k (0, 0)).2 : Int)) := by
  unfold cs1; rw [List.getElem?_map, List.getD_eq_getElem?_getD, List.getElem?_eq_getElem h]; rfl
theorem own_form {w : World} {B n : Nat} {e : TypeId} {v : Value} {xs : List Value} (h : w.ownsRow B e 1 v n xs) : ∃ a c, v = .slice a n c := by
  rcases h.2 with ⟨rfl, rfl⟩ | ⟨g, cap, cur, rfl, -⟩
  · exact ⟨_, _, rfl⟩
  · exact ⟨_, _, rfl⟩
theorem rowsLe_cp {B : Nat} {h h' : Hd} {R R' : Nat → RowD} (c : Cp B h h') (rc : ∀ k, k < h.n → RCp B (R k) (R' k)) (l : RowsLe h R) : RowsLe h' R' := by
  intro k hk
  have hk' : k < h.n := by rw [← c.n]; exact hk
  obtain ⟨l1, l2⟩ := l k hk'
  have q := rc k hk'
  refine ⟨by rw [q.v.n]; exact l1, fun j hj => ?_⟩
  have hj' : j < (R k).v.n := by rw [← q.v.n]; exact hj
  rw [(q.H j hj').n]; exact l2 j hj'
theorem setLe_cp {B : Nat} {h h' : Hd} {R R' : Nat → SetD} (c : Cp B h h') (rc : ∀ k, k < h.n → SCp B (R k) (R' k)) (l : SetLe h R) : SetLe h' R' := by
  intro k hk
  have hk' : k < h.n := by rw [← c.n]; exact hk
  rw [(rc k hk').v.n]; exact l k hk'

set_option maxRecDepth 100000 in
set_option maxHeartbeats 4000000 in
theorem law_any (h0 h1 h5 h6 h7 h8 h9 : Hd) (T : Nat → Tok) (I : Nat → Int) (C U X : Nat → ByteArray) (R : Nat → RowD) (S : Nat → SetD) (i : Int) (sc nm : ByteArray) (w : World)
    (k0 : h0.ok) (k1 : h1.ok) (k5 : h5.ok) (k6 : h6.ok) (k7 : h7.ok) (k8 : h8.ok) (k9 : h9.ok) (a0 : ToksAt w h0 T) (a1 : IntsAt w h1 I) (a5 : StrsAt w h5 C) (a6 : RowsAt w h6 R) (a7 : SetAt w h7 S) (a8 : StrsAt w h8 U) (a9 : StrsAt w h9 X) :
    Calls Try.prog 4 #[h0.val, h1.val, .int .i64 i, .string sc, .string nm, h5.val, h6.val, h7.val, h8.val, h9.val] w fun e w' => e = .returned (.bool true) ∧ Below w.heap.size w w' := by
  have Z := hid3 (zzBytes8_any h0 h1 h5 h6 h7 h8 h9 T C U X R S i sc nm w a0 a5 a8 a9 a6 a7)
  have M := hid3 (modelSize_any h0 h1 h5 h6 h7 h8 h9 T C U X R S sc nm w k0 k5 k6 k7 k8 k9 a0 a5 a8 a9 a6 a7)
  have A := hid3 (And.intro (And.intro k0 a0) (And.intro (And.intro k1 a1) (And.intro (And.intro k5 a5) (And.intro (And.intro k6 a6) (And.intro (And.intro k7 a7) (And.intro (And.intro k8 a8) (And.intro k9 a9)))))))
  have HN : Hid (h0.n ≤ maxLen ∧ h1.n ≤ maxLen) := ⟨Nat.le_trans k0.2.1 k0.2.2, Nat.le_trans k1.2.1 k1.2.2⟩
  clear k0 k1 k5 k6 k7 k8 k9 a0 a1 a5 a6 a7 a8 a9
  obtain ⟨b0, n0, c0⟩ := h0
  obtain ⟨b1, n1, c1⟩ := h1
  obtain ⟨b5, n5, c5⟩ := h5
  obtain ⟨b6, n6, c6⟩ := h6
  obtain ⟨b7, n7, c7⟩ := h7
  obtain ⟨b8, n8, c8⟩ := h8
  obtain ⟨b9, n9, c9⟩ := h9
  unfold Hd.val at Z M
  unfold Hd.val
  go_enter Try.func4, Try.ntmps4
  go_wp2_with fail
  refine Z.out.mono ?_
  rintro e w' ⟨⟨q, rfl, hq⟩, hw⟩
  rw [hw]
  clear hw w' Z
  cases q with
  | false =>
    go_wp2
    go_ret
    exact ⟨rfl, Below.refl _ _⟩
  | true =>
    obtain ⟨m0, m1, m5, m6, m7, m8, m9, mR, mS⟩ := hq rfl
    have HMR : Hid (RowsLe ⟨b6, n6, c6⟩ R) := mR
    have HMS : Hid (SetLe ⟨b7, n7, c7⟩ S) := mS
    simp only at m0 m1 m5 m6 m7 m8 m9
    clear hq mR mS
    have d0 : decide (1048576 < (n0 : Int)) = false := decide_eq_false (by omega)
    have d1 : decide (1048576 < (n1 : Int)) = false := decide_eq_false (by omega)
    have d5 : decide (1048576 < (n5 : Int)) = false := decide_eq_false (by omega)
    have d6 : decide (1048576 < (n6 : Int)) = false := decide_eq_false (by omega)
    have d7 : decide (1048576 < (n7 : Int)) = false := decide_eq_false (by omega)
    have d8 : decide (1048576 < (n8 : Int)) = false := decide_eq_false (by omega)
    have d9 : decide (1048576 < (n9 : Int)) = false := decide_eq_false (by omega)
    by_cases hs : sc.size ≤ 1048576
    · have ds : decide (1048576 < (sc.size : Int)) = false := decide_eq_false (by omega)
      by_cases hm : nm.size ≤ 1048576
      · have dm : decide (1048576 < (nm.size : Int)) = false := decide_eq_false (by omega)
        go_wp2_with fail
        refine M.out.mono ?_
        rintro e w' ⟨⟨r, rfl, hr0, hr1⟩, hw⟩
        rw [hw]
        clear hw w' M
        by_cases hr : r ≤ 1048576
        · have dr : decide (1048576 < r) = false := decide_eq_false (by omega)
          by_cases hi : 0 ≤ i
          · obtain ⟨iN, rfl⟩ := Int.eq_ofNat_of_zero_le hi
            have di : decide ((iN : Int) < 0) = false := decide_eq_false (by omega)
            by_cases hl : n0 ≤ n1
            · have dl : decide ((n1 : Int) < (n0 : Int)) = false := decide_eq_false (by omega)
              go_wp2_with fail
              refine (cloneToks_any ⟨b0, n0, c0⟩ T w A.out.1.1 A.out.1.2 m0).mono ?_
              rintro e x1 ⟨j0, rfl, cp0', t0', hb1'⟩
              have cp0 := hid3 cp0'
              have t0 := hid3 t0'
              have hb1 := hid3 hb1'
              clear cp0' t0' hb1'
              go_wp2_with fail
              refine (cloneInts_any ⟨b1, n1, c1⟩ I x1 A.out.2.1.1 (A.out.2.1.2.below hb1.out) m1).mono ?_
              rintro e x2 ⟨j1, rfl, cp1', t1', hb2'⟩
              have cp1 := hid3 cp1'
              have t1 := hid3 t1'
              have hb2 := hid3 hb2'
              clear cp1' t1' hb2'
              go_wp2_with fail
              refine (cloneStrs_any ⟨b5, n5, c5⟩ C x2 A.out.2.2.1.1 (A.out.2.2.1.2.below (Below.seq hb1.out hb2.out)) m5).mono ?_
              rintro e x3 ⟨j5, rfl, cp5', t5', hb3'⟩
              have cp5 := hid3 cp5'
              have t5 := hid3 t5'
              have hb3 := hid3 hb3'
              clear cp5' t5' hb3'
              go_wp2_with fail
              refine (cloneRows_any ⟨b6, n6, c6⟩ R x3 A.out.2.2.2.1.1 (A.out.2.2.2.1.2.below (Below.seq (Below.seq hb1.out hb2.out) hb3.out)) m6 HMR.out).mono ?_
              rintro e x4 ⟨j6, R1, rfl, cp6', rc6', t6', hb4'⟩
              have cp6 := hid3 cp6'
              have rc6 := hid3 rc6'
              have t6 := hid3 t6'
              have hb4 := hid3 hb4'
              clear cp6' rc6' t6' hb4'
              go_wp2_with fail
              refine (cloneSet_any ⟨b7, n7, c7⟩ S x4 A.out.2.2.2.2.1.1 (A.out.2.2.2.2.1.2.below (Below.seq (Below.seq (Below.seq hb1.out hb2.out) hb3.out) hb4.out)) m7 HMS.out).mono ?_
              rintro e x5 ⟨j7, S1, rfl, cp7', sc7', t7', hb5'⟩
              have cp7 := hid3 cp7'
              have sc7 := hid3 sc7'
              have t7 := hid3 t7'
              have hb5 := hid3 hb5'
              clear cp7' sc7' t7' hb5'
              go_wp2_with fail
              refine (cloneStrs_any ⟨b8, n8, c8⟩ U x5 A.out.2.2.2.2.2.1.1 (A.out.2.2.2.2.2.1.2.below (Below.seq (Below.seq (Below.seq (Below.seq hb1.out hb2.out) hb3.out) hb4.out) hb5.out)) m8).mono ?_
              rintro e x6 ⟨j8, rfl, cp8', t8', hb6'⟩
              have cp8 := hid3 cp8'
              have t8 := hid3 t8'
              have hb6 := hid3 hb6'
              clear cp8' t8' hb6'
              go_wp2_with fail
              refine (cloneStrs_any ⟨b9, n9, c9⟩ X x6 A.out.2.2.2.2.2.2.1 (A.out.2.2.2.2.2.2.2.below (Below.seq (Below.seq (Below.seq (Below.seq (Below.seq hb1.out hb2.out) hb3.out) hb4.out) hb5.out) hb6.out)) m9).mono ?_
              rintro e x7 ⟨j9, rfl, cp9', t9', hb7'⟩
              have cp9 := hid3 cp9'
              have t9 := hid3 t9'
              have hb7 := hid3 hb7'
              clear cp9' t9' hb7'
              have l0 : Hid (j0.n ≤ 1048576) := by unfold Hid; rw [cp0.out.n]; exact m0
              have l5 : Hid (j5.n ≤ 1048576) := by unfold Hid; rw [cp5.out.n]; exact m5
              have l6 : Hid (j6.n ≤ 1048576) := by unfold Hid; rw [cp6.out.n]; exact m6
              have l7 : Hid (j7.n ≤ 1048576) := by unfold Hid; rw [cp7.out.n]; exact m7
              have l8 : Hid (j8.n ≤ 1048576) := by unfold Hid; rw [cp8.out.n]; exact m8
              have l9 : Hid (j9.n ≤ 1048576) := by unfold Hid; rw [cp9.out.n]; exact m9
              have e6 : Hid (RowsLe j6 R1) := rowsLe_cp cp6.out rc6.out HMR.out
              have e7 : Hid (SetLe j7 S1) := setLe_cp cp7.out sc7.out HMS.out
              go_wp2_with fail
              refine (toks_any j0 T x7 cp0.out.ok (t0.out.below (Below.seq (Below.seq (Below.seq (Below.seq (Below.seq hb2.out hb3.out) hb4.out) hb5.out) hb6.out) hb7.out)) l0.out).mono ?_
              rintro e x8 ⟨jt, rfl, cpt', tt', hb8'⟩
              have cpt := hid3 cpt'
              have tt := hid3 tt'
              have hb8 := hid3 hb8'
              clear cpt' tt' hb8'
              go_wp2_with fail
              refine (cloneStrs_any j5 C x8 cp5.out.ok (t5.out.below (Below.seq (Below.seq (Below.seq (Below.seq hb4.out hb5.out) hb6.out) hb7.out) hb8.out)) l5.out).mono ?_
              rintro e x9 ⟨f5, rfl, cf5', p5', hb9'⟩
              have cf5 := hid3 cf5'
              have p5 := hid3 p5'
              have hb9 := hid3 hb9'
              clear cf5' p5' hb9'
              go_wp2_with fail
              refine (rows_any j6 R1 x9 cp6.out.ok (t6.out.below (Below.seq (Below.seq (Below.seq (Below.seq hb5.out hb6.out) hb7.out) hb8.out) hb9.out)) l6.out e6.out).mono ?_
              rintro e x10 ⟨f6, R2, rfl, cf6', rf6', p6', hb10'⟩
              have cf6 := hid3 cf6'
              have rf6 := hid3 rf6'
              have p6 := hid3 p6'
              have hb10 := hid3 hb10'
              clear cf6' rf6' p6' hb10'
              go_wp2_with fail
              refine (set_any j7 S1 x10 cp7.out.ok (t7.out.below (Below.seq (Below.seq (Below.seq (Below.seq hb6.out hb7.out) hb8.out) hb9.out) hb10.out)) l7.out e7.out).mono ?_
              rintro e x11 ⟨f7, S2, rfl, cf7', sf7', p7', hb11'⟩
              have cf7 := hid3 cf7'
              have sf7 := hid3 sf7'
              have p7 := hid3 p7'
              have hb11 := hid3 hb11'
              clear cf7' sf7' p7' hb11'
              go_wp2_with fail
              refine (cloneStrs_any j8 U x11 cp8.out.ok (t8.out.below (Below.seq (Below.seq (Below.seq (Below.seq hb7.out hb8.out) hb9.out) hb10.out) hb11.out)) l8.out).mono ?_
              rintro e x12 ⟨f8, rfl, cf8', p8', hb12'⟩
              have cf8 := hid3 cf8'
              have p8 := hid3 p8'
              have hb12 := hid3 hb12'
              clear cf8' p8' hb12'
              go_wp2_with fail
              refine (cloneStrs_any j9 X x12 cp9.out.ok (t9.out.below (Below.seq (Below.seq (Below.seq (Below.seq hb8.out hb9.out) hb10.out) hb11.out) hb12.out)) l9.out).mono ?_
              rintro e x13 ⟨f9, rfl, cf9', p9', hb13'⟩
              have cf9 := hid3 cf9'
              have p9 := hid3 p9'
              have hb13 := hid3 hb13'
              clear cf9' p9' hb13'
              have PRE : Hid (Pre w x13 j0 jt j1 j5 j6 j7 j8 j9 f5 f6 f7 f8 f9 T I C U X R1 R2 S1 S2) :=
                ⟨(Below.seq (Below.seq (Below.seq (Below.seq (Below.seq (Below.seq (Below.seq (Below.seq (Below.seq (Below.seq (Below.seq (Below.seq hb1.out hb2.out) hb3.out) hb4.out) hb5.out) hb6.out) hb7.out) hb8.out) hb9.out) hb10.out) hb11.out) hb12.out) hb13.out), (t0.out.below (Below.seq (Below.seq (Below.seq (Below.seq (Below.seq (Below.seq (Below.seq (Below.seq (Below.seq (Below.seq (Below.seq hb2.out hb3.out) hb4.out) hb5.out) hb6.out) hb7.out) hb8.out) hb9.out) hb10.out) hb11.out) hb12.out) hb13.out)), l0.out, (tt.out.below (Below.seq (Below.seq (Below.seq (Below.seq hb9.out hb10.out) hb11.out) hb12.out) hb13.out)), ⟨_, cpt.out⟩, (t1.out.below (Below.seq (Below.seq (Below.seq (Below.seq (Below.seq (Below.seq (Below.seq (Below.seq (Below.seq (Below.seq hb3.out hb4.out) hb5.out) hb6.out) hb7.out) hb8.out) hb9.out) hb10.out) hb11.out) hb12.out) hb13.out)), cp1.out.ok, by rw [cp0.out.n, cp1.out.n]; exact hl,
                 ⟨(t5.out.below (Below.seq (Below.seq (Below.seq (Below.seq (Below.seq (Below.seq (Below.seq (Below.seq (Below.seq hb4.out hb5.out) hb6.out) hb7.out) hb8.out) hb9.out) hb10.out) hb11.out) hb12.out) hb13.out)), (p5.out.below (Below.seq (Below.seq (Below.seq hb10.out hb11.out) hb12.out) hb13.out)), cp5.out.ok, cf5.out.ok, cf5.out.n.symm, cf5.out.nil.symm, by rw [cf5.out.n]; exact l5.out⟩,
                 ⟨(t8.out.below (Below.seq (Below.seq (Below.seq (Below.seq (Below.seq (Below.seq hb7.out hb8.out) hb9.out) hb10.out) hb11.out) hb12.out) hb13.out)), (p8.out.below hb13.out), cp8.out.ok, cf8.out.ok, cf8.out.n.symm, cf8.out.nil.symm, by rw [cf8.out.n]; exact l8.out⟩,
                 ⟨(t9.out.below (Below.seq (Below.seq (Below.seq (Below.seq (Below.seq hb8.out hb9.out) hb10.out) hb11.out) hb12.out) hb13.out)), p9.out, cp9.out.ok, cf9.out.ok, cf9.out.n.symm, cf9.out.nil.symm, by rw [cf9.out.n]; exact l9.out⟩,
                 (t7.out.below (Below.seq (Below.seq (Below.seq (Below.seq (Below.seq (Below.seq (Below.seq hb6.out hb7.out) hb8.out) hb9.out) hb10.out) hb11.out) hb12.out) hb13.out)), l7.out, e7.out, (p7.out.below (Below.seq hb12.out hb13.out)), ⟨_, cf7.out, sf7.out⟩, (t6.out.below (Below.seq (Below.seq (Below.seq (Below.seq (Below.seq (Below.seq (Below.seq (Below.seq hb5.out hb6.out) hb7.out) hb8.out) hb9.out) hb10.out) hb11.out) hb12.out) hb13.out)), l6.out, e6.out, (p6.out.below (Below.seq (Below.seq hb11.out hb12.out) hb13.out)), ⟨_, cf6.out, rf6.out⟩⟩
              have ct := cpt.out
              have nt : Hid (jt.n = j0.n) := ct.n
              have LQ : Hid (f6.n ≤ 1048576) := by unfold Hid; rw [cf6.out.n]; exact l6.out
              have KQ : Hid (f6.ok ∧ f6.cap = f6.n) := ⟨cf6.out.ok, by rw [cf6.out.cap, cf6.out.n]⟩
              clear ct cp0 cp1 cp5 cp6 cp7 cp8 cp9 cpt t0 t1 t5 t6 t7 t8 t9 tt cf5 cf6 cf7 cf8 cf9 p5 p6 p7 p8 p9 rc6 sc7 rf6 sf7 l0 l5 l6 l7 l8 l9 e6 e7 hb1 hb2 hb3 hb4 hb5 hb6 hb7 hb8 hb9 hb10 hb11 hb12 hb13 A HMR HMS x1 x2 x3 x4 x5 x6 x7 x8 x9 x10 x11 x12
              obtain ⟨a5, q5, r5⟩ := f5
              obtain ⟨a6, q6, r6⟩ := f6
              obtain ⟨a7, q7, r7⟩ := f7
              obtain ⟨a8, q8, r8⟩ := f8
              obtain ⟨a9, q9, r9⟩ := f9
              simp only [Hd.val]
              go_upto_region 20 with fail
              obtain ⟨bi, hbi⟩ : ∃ bi, bi = x13.heap.size := ⟨_, rfl⟩
              obtain ⟨w1, hw1⟩ : ∃ w1, w1 = x13.alloc (.cells #[.string sc, .string nm, .slice a5 q5 r5, .slice a6 q6 r6, .slice a7 q7 r7, .slice a8 q8 r8, .slice a9 q9 r9] 46) := ⟨_, rfl⟩
              have hbw : Below x13.heap.size x13 w1 := by rw [hw1]; exact (Below.refl _ _).alloc (Nat.le_refl _) _
              have hsz : bi < w1.heap.size := by rw [hw1, hbi]; simp
              have e0 : w1.cell? ⟨bi, 0, none⟩ = some (.string sc) := by rw [hw1, hbi]; simp [go_sem]
              have e1 : w1.cell? ⟨bi, 1, none⟩ = some (.string nm) := by rw [hw1, hbi]; simp [go_sem]
              have e2 : w1.cell? ⟨bi, 2, none⟩ = some (.slice a5 q5 r5) := by rw [hw1, hbi]; simp [go_sem]
              have e3 : w1.cell? ⟨bi, 3, none⟩ = some (.slice a6 q6 r6) := by rw [hw1, hbi]; simp [go_sem]
              have e4 : w1.cell? ⟨bi, 4, none⟩ = some (.slice a7 q7 r7) := by rw [hw1, hbi]; simp [go_sem]
              have e5 : w1.cell? ⟨bi, 5, none⟩ = some (.slice a8 q8 r8) := by rw [hw1, hbi]; simp [go_sem]
              have e6 : w1.cell? ⟨bi, 6, none⟩ = some (.slice a9 q9 r9) := by rw [hw1, hbi]; simp [go_sem]
              have ef : w1.frozen? ⟨bi, 3, none⟩ = false := by rw [hw1, hbi]; simp [go_sem]
              rw [← hw1, ← hbi]
              have CE := hid3 (And.intro hbi (And.intro hbw (And.intro hsz (And.intro e0 (And.intro e1 (And.intro e2 (And.intro e4 (And.intro e5 e6))))))))
              obtain ⟨own0, st⟩ := RdSt.start (w := w1) (bi := bi) (T := T) (I := I) (R := R2) (f := ⟨a6, q6, r6⟩) KQ.out.1 KQ.out.2 (PRE.out.p6.below hbw) e3 ef
              have ZR := hid3 (zread_any jt j1 T I iN bi q6 R2 (.slice a6 q6 r6) own0 x13 w1 PRE.out.tt PRE.out.t1 (by rw [nt.out]; exact PRE.out.n0) LQ.out (by obtain ⟨B, c⟩ := PRE.out.ct; exact ⟨c.ok.2.1, c.ok.2.2⟩) ⟨by rw [nt.out]; exact PRE.out.n1, PRE.out.k1.2.1, PRE.out.k1.2.2⟩ hbi hbw hsz st)
              rw [nt.out] at ZR
              obtain ⟨r, hr⟩ : ∃ r, r = (rd T j0.n (j0.n + 1) iN).1 := ⟨_, rfl⟩
              obtain ⟨ps, hps⟩ : ∃ ps, ps = (rd T j0.n (j0.n + 1) iN).2 := ⟨_, rfl⟩
              have HPI : Hid (∀ p, p ∈ ps → p.1 < p.2 ∧ p.2 < j0.n) := by intro p hp; rw [hps] at hp; exact rd_in T j0.n _ _ p hp
              have HPL : Hid (ps.length ≤ j0.n) := by
                have := rd_len T j0.n (j0.n + 1) iN
                rw [← hps] at this
                exact Nat.le_trans this (Nat.sub_le _ _)
              rw [← hr, ← hps] at ZR
              have HM : Hid (∀ w2, ToksAt w2 j0 T → Calls Try.prog 19 #[j0.val, .int .i64 iN] w2 fun e w' => MAns w2 w' r ps e ∧ Below w2.heap.size w2 w') := by
                intro w2 h2
                rw [hr, hps]
                exact model_any j0 T iN w2 h2 PRE.out.n0
              clear hr hps st e0 e1 e2 e3 e4 e5 e6 ef hw1 hbi hbw hsz
              unfold Hd.val at ZR HM
              go_upto_region 21 with (go_at_call 18; refine ZR.out.mono ?_; rintro e w2 ⟨rfl, own, v, R3, hrd'⟩; have hrd := hid3 hrd'; clear hrd')
              go_cut [24, 25, 26] from 31 to 146 (fun v24 v25 v26 wx => v24 = .int .i64 (r : Int) ∧ Hid (∃ f6, LawSt w wx j0 j1 j5 j6 j7 j8 j9 ⟨a5, q5, r5⟩ f6 ⟨a7, q7, r7⟩ ⟨a8, q8, r8⟩ ⟨a9, q9, r9⟩ T I C U X R1 R3 S1 S2 sc nm bi ps v25 v26))
              case first =>
                as_aux_lemma =>
                  have HT2 : Hid (ToksAt w2 j0 T) := by
                    obtain ⟨g1, g2, g3, -⟩ := CE.out
                    have h := hrd.out
                    refine PRE.out.t0.below (w' := w2) ⟨h.os.trans g2.os, h.tape.trans g2.tape, h.output.trans g2.output, Nat.le_trans g2.size h.size, fun j hj => (h.keep j (by omega) (by omega)).trans (g2.block j hj)⟩
                  go_wp2_with (go_at_call 19; refine (HM.out w2 HT2.out).mono ?_; rintro e w3 ⟨⟨v9, v10, rfl, o9, o10⟩, hb3⟩)
                  go_meet
                  refine ⟨rfl, ?_⟩
                  obtain ⟨g1, g2, g3, g4, g5, g6, g7, g8, g9⟩ := CE.out
                  exact PRE.out.law g1 g2 g3 g4 g5 g6 g7 g8 g9 hrd.out hb3 o9 o10 HPI.out HPL.out
              case rest =>
                obtain ⟨rfl, HL'⟩ := hcut
                obtain ⟨⟨a6', q6', r6'⟩, hL⟩ := HL'.out
                have HL := hid3 hL
                clear hL HL' hrd CE PRE ZR HM HPI HPL KQ LQ nt
                obtain ⟨p0, k0, l0⟩ := j0
                obtain ⟨p1, k1, l1⟩ := j1
                obtain ⟨p5, k5', l5⟩ := j5
                obtain ⟨p6, k6', l6⟩ := j6
                obtain ⟨p7, k7, l7⟩ := j7
                obtain ⟨p8, k8, l8⟩ := j8
                obtain ⟨p9, k9, l9⟩ := j9
                have m6 := HL.out.m6
                simp only at m6
                subst m6
                obtain ⟨B25, o25⟩ := HL.out.o25
                obtain ⟨B26, o26⟩ := HL.out.o26
                obtain ⟨a25, c25, rfl⟩ := own_form o25
                obtain ⟨a26, c26, rfl⟩ := own_form o26
                clear o25 o26 B25 B26
                have hps : ps.length ≤ 1048576 := Nat.le_trans HL.out.pl HL.out.n0
                have hj6 : k6' ≤ 1048576 := HL.out.l6
                have H5 : Hid (∀ wy, Below wc.heap.size wc wy → Calls Try.prog 20 #[.slice a5 q5 r5, .slice p5 k5' l5] wy fun e w' => e = .returned (.bool true) ∧ Below wy.heap.size wy w') := by
                  intro wy hb
                  have s := HL.out.s5.below hb
                  exact sameStrs_any ⟨a5, q5, r5⟩ ⟨p5, k5', l5⟩ C wy s.kf s.kj s.tf s.tj s.n s.nil s.le
                have H8 : Hid (∀ wy, Below wc.heap.size wc wy → Calls Try.prog 20 #[.slice a8 q8 r8, .slice p8 k8 l8] wy fun e w' => e = .returned (.bool true) ∧ Below wy.heap.size wy w') := by
                  intro wy hb
                  have s := HL.out.s8.below hb
                  exact sameStrs_any ⟨a8, q8, r8⟩ ⟨p8, k8, l8⟩ U wy s.kf s.kj s.tf s.tj s.n s.nil s.le
                have H9 : Hid (∀ wy, Below wc.heap.size wc wy → Calls Try.prog 20 #[.slice a9 q9 r9, .slice p9 k9 l9] wy fun e w' => e = .returned (.bool true) ∧ Below wy.heap.size wy w') := by
                  intro wy hb
                  have s := HL.out.s9.below hb
                  exact sameStrs_any ⟨a9, q9, r9⟩ ⟨p9, k9, l9⟩ X wy s.kf s.kj s.tf s.tj s.n s.nil s.le
                have H7 : Hid (∀ wy, Below wc.heap.size wc wy → Calls Try.prog 21 #[.slice a7 q7 r7, .slice p7 k7 l7] wy fun e w' => e = .returned (.bool true) ∧ Below wy.heap.size wy w') := by
                  intro wy hb
                  have s := HL.out.below hb
                  exact sameSet_any ⟨a7, q7, r7⟩ ⟨p7, k7, l7⟩ S2 S1 wy s.p7 s.t7 s.e7 s.l7 s.i7
                have z0 := HL.out.c0
                have z1 := HL.out.c1
                have z2 := HL.out.c2
                have Z3 := hid3 HL.out.c3
                have Z4 := hid3 HL.out.c4
                have Z5 := hid3 HL.out.c5
                have Z6 := hid3 HL.out.c6
                unfold Hd.val at z2 Z3 Z4 Z5 Z6
                clear hm hs hr hr0 hr1 dr di dl hl hi dm ds d0 d1 d5 d6 d7 d8 d9 m0 m1 m5 m6 m7 m8 m9 HN
                go_upto_region 30 with (first
                  | (go_at_call_of 20 a5; refine (H5.out wc (Below.refl _ _)).mono ?_; rintro e y1 ⟨rfl, hy1⟩; have k5 := cell_b hy1 Z5.out)
                  | (go_at_call_of 20 a8; refine (H8.out y1 hy1).mono ?_; rintro e y2 ⟨rfl, hy2'⟩; have hy2 := Below.seq hy1 hy2'; have k6 := cell_b hy2 Z6.out)
                  | (go_at_call_of 20 a9; refine (H9.out y2 hy2).mono ?_; rintro e y3 ⟨rfl, hy3'⟩; have hy3 := Below.seq hy2 hy3'; have k4 := cell_b hy3 Z4.out)
                  | (go_at_call 21; refine (H7.out y3 hy3).mono ?_; rintro e y4 ⟨rfl, hy4'⟩; have hy4 := Below.seq hy3 hy4'; have k3 := cell_b hy4 Z3.out))
                have HL4 := hid3 (HL.out.below hy4)
                clear HL H5 H8 H9 H7 z0 z1 z2 Z3 Z4 Z5 Z6 hy1 hy2 hy3 hy4 hy2' hy3' hy4' k5 k6 k4
                have heq41 := fun w => Lib.run_eql_slice_nil (P := Try.prog) w 41 54 a6' (k6' + ps.length) r6' 0 0 Try.underlying41
                have heq27 := fun w => Lib.run_eql_slice_nil (P := Try.prog) w 27 57 p6 k6' l6 0 0 Try.underlying27
                go_upto_region 33 with fail
                go_cut [222] from 147 to 222 (fun c wx => c = .bool false ∧ wx = y4)
                case first =>
                  as_aux_lemma =>
                    have z6 := HL4.out.z6
                    simp only at z6
                    rcases Bool.eq_false_or_eq_true p6.isNone with hb | hb
                    · by_cases hp : ps.length = 0
                      · have ha : a6'.isNone = true := Option.isNone_iff_eq_none.2 (z6.2 ⟨Option.isNone_iff_eq_none.1 hb, hp⟩)
                        have hpI : ((ps.length : Int) == 0) = true := beq_iff_eq.2 (by omega)
                        rw [ha] at heq41
                        rw [hb] at heq27
                        clear z6 hp ha hb
                        go_wp2
                        go_meet
                        exact ⟨rfl, rfl⟩
                      · have ha : a6'.isNone = false := by
                          rcases a6' with _ | a6'
                          · exact absurd (z6.1 rfl).2 hp
                          · rfl
                        have hpI : ((ps.length : Int) == 0) = false := beq_eq_false_iff_ne.2 (by omega)
                        rw [ha] at heq41
                        rw [hb] at heq27
                        clear z6 hp ha hb
                        go_wp2
                        go_meet
                        exact ⟨rfl, rfl⟩
                    · have ha : a6'.isNone = false := by
                        rcases a6' with _ | a6'
                        · have := (z6.1 rfl).1; rw [this] at hb; cases hb
                        · rfl
                      rw [ha] at heq41
                      rw [hb] at heq27
                      clear z6 ha hb
                      go_wp2
                      go_meet
                      exact ⟨rfl, rfl⟩
                case rest =>
                  obtain ⟨rfl, hw⟩ := hcut
                  rw [hw]
                  clear hw heq41 heq27
                  go_upto_block 0 with fail
                  have HB : Hid (Below w.heap.size w y4) := HL4.out.bel
                  go_cut [28] from 223 to 272 (fun _ wx => Below y4.heap.size y4 wx)
                  case first =>
                    as_aux_lemma =>
                      go_wp2_with fail
                      go_loopg [28] k6' (fun g v wr => ∃ k : Nat, k ≤ k6' ∧ g = k6' - k ∧ v = .int .i64 k ∧ Below y4.heap.size y4 wr)
                      case atStart => exact ⟨0, Nat.zero_le _, rfl, rfl, Below.refl _ _⟩
                      case round =>
                        obtain ⟨k, hk, hg, rfl, hbel⟩ := hrel
                        by_cases hlt : k < k6'
                        · have h := HL4.out.below hbel
                          have g3 := h.c3
                          unfold Hd.val at g3
                          obtain ⟨⟨d1, o1, x1, x2⟩, -, x3⟩ := h.p6 k (show k < k6' + ps.length by omega)
                          cases x1
                          obtain ⟨u0, u1, u2⟩ := x2
                          obtain ⟨⟨d2, o2, y1', y2'⟩, -, y3'⟩ := h.t6 k hlt
                          cases y1'
                          obtain ⟨v0, v1, v2⟩ := y2'
                          obtain ⟨i1, i2, i3, i4, i5, i6⟩ := h.i6 k hlt
                          rw [i1] at u0
                          rw [i2] at u1
                          have hltI : (k : Int) < (k6' : Int) := by omega
                          have hltJ : (k : Int) < (k6' : Int) + (ps.length : Int) := by omega
                          go_upto_region 38 with fail
                          go_cut [257] from 223 to 272 (fun c wx => c = .bool false ∧ Below wr.heap.size wr wx)
                          case first =>
                            as_aux_lemma =>
                              go_quiet (fail)
                              go_wp2
                              go_meet
                              exact ⟨rfl, below_drewN (Below.refl _ _) _⟩
                          case rest =>
                            obtain ⟨rfl, hb8⟩ := hcut
                            have hbz : Below y4.heap.size y4 wc.drew := (Below.seq hbel hb8).drew
                            have h9 := HL4.out.below hbz
                            obtain ⟨-, -, t3⟩ := h9.p6 k (show k < k6' + ps.length by omega)
                            obtain ⟨-, -, t1⟩ := h9.t6 k hlt
                            rw [i3] at t1
                            have HV := hid3 (sameVals_any (R3 k).v (R1 k).v (R3 k).H (R1 k).H (R3 k).T wc.drew t3 t1 i4 i5 i6)
                            unfold Hd.val at HV u2 v2
                            replace g3 := cell_b hb8 g3
                            replace u2 := cell_b hb8 u2
                            replace v2 := cell_b hb8 v2
                            clear h9 t3 t1 h i1 i2 i3 i4 i5 i6 u0 u1 v0 v1 x3 y3'
                            go_upto_region 40 with fail
                            go_region_held (fun w' => w'.cell? ⟨bi, 3, none⟩ = some (.slice (some ⟨d1, o1, none⟩) (k6' + ps.length) r6') ∧ w'.cell? ⟨d1, o1 + k * 3 + 2, none⟩ = some (.slice (R3 k).v.a (R3 k).v.n (R3 k).v.cap) ∧ w'.cell? ⟨d2, o2 + k * 3 + 2, none⟩ = some (.slice (R1 k).v.a (R1 k).v.n (R1 k).v.cap)) (first | go_keep | exact ⟨cell_b (hbd.trans hb2) g3, cell_b (hbd.trans hb2) u2, cell_b (hbd.trans hb2) v2⟩) (first | (go_at_call 22; refine HV.out.mono ?_; rintro e w2 ⟨rfl, hb2⟩; have hbd : Below wc.heap.size wc wc.drew := (Below.refl _ _).drew))
                            all_goals go_wp2
                            all_goals
                              go_roundg (k6' - (k + 1))
                              case measure => omega
                              case rel => exact ⟨k + 1, by omega, rfl, by go_num, Below.seq hbz hb2⟩
                        · have d : decide ((k : Int) < (k6' : Int)) = false := decide_eq_false (by omega)
                          go_wp2
                          go_meet
                          exact hbel
                  case rest =>
                    have hb5 := hid3 hcut
                    clear hcut
                    go_wp2_with fail
                    go_loopg [29] ps.length (fun g v wr => ∃ k : Nat, k ≤ ps.length ∧ g = ps.length - k ∧ v = .int .i64 k ∧ Below y4.heap.size y4 wr)
                    case atStart => exact ⟨0, Nat.zero_le _, rfl, rfl, hb5.out⟩
                    case round =>
                      clear hb5
                      obtain ⟨k, hk, hg, rfl, hbel⟩ := hrel
                      by_cases hlt : k < ps.length
                      · have h := HL4.out.below hbel
                        obtain ⟨hp1, hp2⟩ := h.pi _ (getD_mem ps k (0, 0) hlt)
                        have hro := h.w6 k hlt
                        have g3 := h.c3
                        unfold Hd.val at g3
                        obtain ⟨⟨d1, o1, x1, x2⟩, -, -⟩ := h.p6 (k6' + k) (show k6' + k < k6' + ps.length by omega)
                        cases x1
                        obtain ⟨u0, u1, u2⟩ := x2
                        rw [hro.pos] at u0
                        rw [hro.stop] at u1
                        obtain ⟨B25, o25⟩ := h.o25
                        obtain ⟨B26, o26⟩ := h.o26
                        obtain ⟨g25, cc25, e25⟩ := Joins.ownsRow_form o25 (by omega)
                        obtain ⟨g26, cc26, e26⟩ := Joins.ownsRow_form o26 (by omega)
                        cases e25
                        cases e26
                        have w5 := (o25.cellAt k (by omega)).trans (os1_get ps hlt)
                        have w6 := (o26.cellAt k (by omega)).trans (cs1_get ps hlt)
                        obtain ⟨po, pc, hpp⟩ : ∃ po pc, ps.getD k (0, 0) = (po, pc) := ⟨_, _, rfl⟩
                        rw [hpp] at hp1 hp2 u0 u1 w5 w6 hro
                        simp only at hp1 hp2 u0 u1 w5 w6
                        obtain ⟨d0, o0, x0, tk⟩ := h.t0 po (show po < k0 by omega)
                        cases x0
                        have s2 := tk.c2
                        obtain ⟨d0', o0', x0, tk⟩ := h.t0 pc hp2
                        cases x0
                        have s3 := tk.c3
                        have hn0 : k0 ≤ 1048576 := h.n0
                        have HRO := hid3 hro
                        have HP := hid3 hpp
                        clear hro tk o25 o26 hpp
                        generalize hR : R3 (k6' + k) = rw3 at *
                        obtain ⟨rp, re, ⟨rva, rvn, rvc⟩, rH, rT⟩ := rw3
                        unfold Hd.val at u2
                        simp only at u2
                        have hltI : (k : Int) < (ps.length : Int) := by omega
                        have hltJ : (k6' : Int) + (k : Int) < (k6' : Int) + (ps.length : Int) := by omega
                        have hpo : (po : Int) < (k0 : Int) := by omega
                        have hpc : (pc : Int) < (k0 : Int) := by omega
                        go_upto_region 46 with fail
                        obtain ⟨wA, hwA⟩ : ∃ wA, wA = wr.alloc (.cells #[.int .i64 (T po).pos, .int .i64 (T pc).stop, .slice rva rvn rvc] 54) := ⟨_, rfl⟩
                        have hbA : Below wr.heap.size wr wA := by rw [hwA]; exact (Below.refl _ _).alloc (Nat.le_refl _) _
                        have q0 : wA.cell? ⟨wr.heap.size, 0, none⟩ = some (.int .i64 (T po).pos) := by rw [hwA]; simp [go_sem]
                        have q1 : wA.cell? ⟨wr.heap.size, 1, none⟩ = some (.int .i64 (T pc).stop) := by rw [hwA]; simp [go_sem]
                        have q2 : wA.cell? ⟨wr.heap.size, 2, none⟩ = some (.slice rva rvn rvc) := by rw [hwA]; simp [go_sem]
                        replace w5 := cell_b hbA w5
                        replace w6 := cell_b hbA w6
                        replace s2 := cell_b hbA s2
                        replace s3 := cell_b hbA s3
                        rw [← hwA]
                        clear hwA u0 u1 u2 g3 h
                        go_cut [311] from 273 to 326 (fun c wx => c = .bool false ∧ Below wA.heap.size wA wx)
                        case first =>
                          as_aux_lemma =>
                            go_quiet (fail)
                            go_wp2
                            go_meet
                            exact ⟨rfl, below_drewN (Below.refl _ _) _⟩
                        case rest =>
                          obtain ⟨rfl, hb8⟩ := hcut
                          have hbz : Below y4.heap.size y4 wc.drew := (Below.seq (Below.seq hbel hbA) hb8).drew
                          have h9 := HL4.out.below hbz
                          have hro := h9.w6 k hlt
                          rw [HP.out, hR] at hro
                          have HVO := hid3 (fun A (hA : A = po + 1) => valuesOK_any ⟨rva, rvn, rvc⟩ ⟨some ⟨d0, o0, none⟩, k0, l0⟩ ⟨p1, k1, l1⟩ rH rT T I po pc A wc.drew hA hro.vals hro.n hro.nil hro.len hro.tok h9.t0 h9.t1 hp1 hp2 h9.n0 h9.n1)
                          obtain ⟨A, hA⟩ : ∃ A, A = po + 1 := ⟨_, rfl⟩
                          have HVA := hid3 (HVO.out A hA)
                          have hwr : IntKind.i64.wrap ((po : Int) + 1) = (A : Int) := by rw [IntKind.wrap_i64]; omega
                          unfold Hd.val at HVA
                          simp only at HVA
                          replace w5 := cell_b hb8 w5
                          replace w6 := cell_b hb8 w6
                          replace q2 := cell_b hb8 q2
                          clear hro h9 HVO hA q0 q1 s2 s3 HP hR HRO
                          go_upto_region 48 with fail
                          go_region_held (fun w' => w'.cell? ⟨wr.heap.size, 2, none⟩ = some (.slice rva rvn rvc) ∧ w'.cell? ⟨g25, k, none⟩ = some (.int .i64 po) ∧ w'.cell? ⟨g26, k, none⟩ = some (.int .i64 pc)) (first | go_keep | exact ⟨cell_b (hbd.trans hb2) q2, cell_b (hbd.trans hb2) w5, cell_b (hbd.trans hb2) w6⟩) (first | (go_at_call 23; refine HVA.out.mono ?_; rintro e w2 ⟨rfl, hb2⟩; have hbd : Below wc.heap.size wc wc.drew := (Below.refl _ _).drew))
                          all_goals go_wp2
                          all_goals
                            go_roundg (ps.length - (k + 1))
                            case measure => omega
                            case rel => exact ⟨k + 1, by omega, rfl, by go_num, Below.seq hbz hb2⟩
                      · have d : decide ((k : Int) < (ps.length : Int)) = false := decide_eq_false (by omega)
                        go_wp2
                        go_ret
                        exact ⟨rfl, HB.out.trans (hbel.mono HB.out.size)⟩
            · have dl : (n1 : Int) < (n0 : Int) := by omega
              go_wp2
              go_ret
              exact ⟨rfl, Below.refl _ _⟩
          · have di : i < 0 := by omega
            go_wp2
            go_ret
            exact ⟨rfl, Below.refl _ _⟩
        · have dr : 1048576 < r := by omega
          go_wp2
          go_ret
          exact ⟨rfl, Below.refl _ _⟩
      · have dm : 1048576 < (nm.size : Int) := by omega
        go_wp2
        go_ret
        exact ⟨rfl, Below.refl _ _⟩
    · have ds : 1048576 < (sc.size : Int) := by omega
      go_wp2
      go_ret
      exact ⟨rfl, Below.refl _ _⟩
end Go.Proofs.Qxb6603997a
