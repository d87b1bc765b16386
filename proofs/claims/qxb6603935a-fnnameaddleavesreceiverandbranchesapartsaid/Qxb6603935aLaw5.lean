import Derived.Test.Qxb6603935aLaw3
namespace Go.Proofs.Qxb6603935a
open Go.RowKit

/-- A variable that holds a name. -/
def Box (w : World) (g : Nat) (s : ByteArray) (l : List (Nat × ByteArray)) : Prop :=
  w.cell? ⟨g, 0, none⟩ = some (.string s) ∧ w.cell? ⟨g, 1, none⟩ = some (.pointer (hp l)) ∧ Chain w s l

theorem Box.below {w w' : World} {g : Nat} {s : ByteArray} {l : List (Nat × ByteArray)} (h : Box w g s l) (hb : Below w.heap.size w w') : Box w' g s l :=
  ⟨(hb.cell (p := ⟨g, 0, none⟩) (cell_lt h.1)).trans h.1, (hb.cell (p := ⟨g, 1, none⟩) (cell_lt h.1)).trans h.2.1, h.2.2.below hb⟩
theorem Box.born {w : World} {s : ByteArray} {l : List (Nat × ByteArray)} (h : Chain w s l) : Box (w.alloc (.cells #[.string s, .pointer (hp l)] 28)) w.heap.size s l :=
  ⟨by simp [go_sem], by simp [go_sem], h.below ((Below.refl _ _).alloc (Nat.le_refl _) _)⟩
theorem below_box (w : World) (s : ByteArray) (p : Option Addr) : Below w.heap.size w (w.alloc (.cells #[.string s, .pointer p] 28)) := (Below.refl _ _).alloc (Nat.le_refl _) _

theorem pre_refl (X : List UInt8) : pre X X = true := pre_true (List.prefix_refl _)
theorem pre_more (r0 r1 x : ByteArray) (X : List UInt8) (h0 : r0.data.toList = X) (h1 : r1.data.toList = X ++ x.data.toList) : pre r1.data.toList r0.data.toList = ((x.size : Int) == 0) := by
  rw [h0, h1]
  by_cases h : x.size = 0
  · have e : x.data.toList = [] := List.eq_nil_of_length_eq_zero (by rw [size_list]; exact h)
    rw [e, List.append_nil, pre_refl, h]; rfl
  · rw [pre_long (by rw [List.length_append, size_list]; omega)]
    symm; simp; intro hx; apply h; rw [hx]; rfl

theorem len_b (s : ByteArray) (l : List (Nat × ByteArray)) (n : Nat) (w : World) (h : Chain w s l) (hn : ln s (tails l) = n) (hle : n ≤ 2097152) :
    Calls Try.prog 16 #[.agg #[.string s, .pointer (hp l)]] w fun e w' => e = .returned (.int .i64 (n : Int)) ∧ Below w.heap.size w w' := by
  subst hn
  refine (len_raw s (hp l) _ w (h.sizeAt (by omega))).mono ?_
  rintro e w' ⟨rfl, rfl⟩
  exact ⟨rfl, below_box _ _ _⟩
theorem hasPrefix_as (s p : ByteArray) (l : List (Nat × ByteArray)) (w : World) (hc : Chain w s l) (hn : ln s (tails l) ≤ 2097152) (b : Bool) (h : pre p.data.toList (spellN s (tails l)) = b) :
    Calls Try.prog 12 #[.agg #[.string s, .pointer (hp l)], .string p] w fun e w' => e = .returned (.bool b) ∧ Below w.heap.size w w' := by
  subst h
  exact hasPrefix_any s p l w hc hn
theorem isPrefix_as (p s : ByteArray) (w : World) (hs : s.size ≤ 2097152) (b : Bool) (h : pre p.data.toList s.data.toList = b) :
    Calls Try.prog 13 #[.string p, .string s] w fun e w' => e = .returned (.bool b) ∧ Below w.heap.size w w' := by
  subst h
  exact isPrefix_any p s w hs

/-- The three names, the tails, and all old memory, in the world W. -/
structure All3 (w : World) (g1 : Nat) (s1 : ByteArray) (l1 : List (Nat × ByteArray)) (g2 : Nat) (s2 : ByteArray) (l2 : List (Nat × ByteArray)) (g3 : Nat) (s3 : ByteArray) (l3 : List (Nat × ByteArray)) (ao : Option Addr) (ts : List ByteArray) (W : World) : Prop where
  b1 : Box W g1 s1 l1
  b2 : Box W g2 s2 l2
  b3 : Box W g3 s3 l3
  st : Strs W ao ts
  be : Below w.heap.size w W
theorem All3.below {w : World} {g1 : Nat} {s1 : ByteArray} {l1 : List (Nat × ByteArray)} {g2 : Nat} {s2 : ByteArray} {l2 : List (Nat × ByteArray)} {g3 : Nat} {s3 : ByteArray} {l3 : List (Nat × ByteArray)} {ao : Option Addr} {ts : List ByteArray} {W W' : World}
    (h : All3 w g1 s1 l1 g2 s2 l2 g3 s3 l3 ao ts W) (hb : Below W.heap.size W W') : All3 w g1 s1 l1 g2 s2 l2 g3 s3 l3 ao ts W' :=
  ⟨h.b1.below hb, h.b2.below hb, h.b3.below hb, h.st.below hb (Nat.le_refl _), h.be.trans (hb.mono h.be.size)⟩

set_option maxRecDepth 100000 in
set_option maxHeartbeats 2000000 in
theorem law5_any (s : ByteArray) (ao : Option Addr) (ts : List ByteArray) (cap : Nat) (x y : ByteArray) (w : World) (hs : Strs w ao ts) (hl : ts.length ≤ maxLen) (hnil : ao = none → cap = 0) :
    Calls Try.prog 5 #[.string s, .slice ao ts.length cap, .string x, .string y] w fun e w' => e = .returned (.bool true) ∧ Below w.heap.size w w' := by
  have hnil2 : ao = none → cap = 0 ∧ ts = [] := fun h => ⟨hnil h, by
    rcases hs with h0 | ⟨b, off, h1, _⟩
    · exact h0
    · rw [h] at h1; cases h1⟩
  have hz := zzBytes17 s ao ts cap x y w hs hl
  have hsz := b1Size_any s ao ts cap w hs hl
  have HS : Hid (Strs w ao ts) := hs
  have HNIL : Hid (ao = none → cap = 0 ∧ ts = []) := hnil2
  clear hs hnil hnil2 hl
  go_enter Try.func5, Try.ntmps5
  go_wp2_with fail
  refine hz.mono ?_
  clear hz
  rintro e wx ⟨⟨x, rfl⟩, hwx⟩
  rw [hwx]
  clear hwx wx
  cases x
  · go_wp2
    go_ret
    exact ⟨rfl, Below.refl _ _⟩
  go_wp2_with fail
  refine hsz.mono ?_
  clear hsz
  rintro e wx ⟨⟨m, rfl, hm⟩, hwx⟩
  rw [hwx]
  clear hwx wx
  rcases hm with rfl | ⟨hm, hm2⟩
  · go_wp2
    go_ret
    exact ⟨rfl, Below.refl _ _⟩
  have hmd : decide (1048576 < m) = false := decide_eq_false (by omega)
  have hm0 : 0 ≤ m := by omega
  have HM : Hid (m = ((s.size + tot 16 ts : Nat) : Int)) := hm
  clear hm
  by_cases hpx : 1048576 - m < (x.size : Int)
  · go_wp2
    go_ret
    exact ⟨rfl, Below.refl _ _⟩
  have hpd : decide (1048576 - m < (x.size : Int)) = false := decide_eq_false hpx
  by_cases hpy : 1048576 - m - (x.size : Int) < (y.size : Int)
  · go_wp2
    go_ret
    exact ⟨rfl, Below.refl _ _⟩
  have hpd2 : decide (1048576 - m - (x.size : Int) < (y.size : Int)) = false := decide_eq_false hpy
  have HT : Hid (s.size + tot 0 ts + x.size + y.size ≤ 1048576 ∧ ts.length ≤ 1048576) := by
    have h1 := HM.out; have h2 := tot_le ts; unfold Hid; omega
  go_wp2_with fail
  refine (clone_any ao ts cap w HS.out HT.out.2 HNIL.out).mono ?_
  rintro e w2 ⟨ao2, cap2, rfl, hst, hb2⟩
  have HST : Hid (Strs w2 ao2 ts) := hst
  clear hst
  go_wp2_with fail
  refine (build_any s ao2 ts cap2 w2 HST.out HT.out.2 (by have := HT.out; omega)).mono ?_
  rintro e w3 ⟨s', l, rfl, hbn, hch, hb3⟩
  have HLN : Hid (ln s' (tails l) = s.size + tot 0 ts) := by
    have h1 := ln_buildN s ts
    rw [← hbn] at h1
    exact h1
  have HSP : Hid (spellN s' (tails l) = modelL s ts) := by
    have h1 := spell_buildN s ts
    rw [← hbn] at h1
    exact h1
  have HBOX : Hid (Box (w3.alloc (.cells #[.string s', .pointer (hp l)] 28)) w3.heap.size s' l) := Box.born hch
  have HST3 : Hid (Strs (w3.alloc (.cells #[.string s', .pointer (hp l)] 28)) ao2 ts) := HST.out.below (hb3.trans ((below_box w3 s' (hp l)).mono hb3.size)) (Nat.le_refl _)
  have HB3 : Hid (Below w.heap.size w (w3.alloc (.cells #[.string s', .pointer (hp l)] 28))) := (hb2.trans (hb3.mono hb2.size)).trans ((below_box w3 s' (hp l)).mono (Nat.le_trans hb2.size hb3.size))
  clear hbn hch hb2 hb3 HST
  go_wp2_with fail
  refine (add_any s' x l _ HBOX.out.2.2 (by rw [HLN.out]; have := HT.out; omega)).mono ?_
  rintro e w4 ⟨sa, la, rfl, hea, hcha, _hma, hb4⟩
  have HEA : Hid ((sa, tails la) = addN s' (tails l) x) := hea
  have HLNA : Hid (ln sa (tails la) = s.size + tot 0 ts + x.size) := by
    have h1 := ln_addN s' (tails l) x
    rw [← hea] at h1
    unfold Hid; rw [← HLN.out]; exact h1
  have HSPA : Hid (spellN sa (tails la) = modelL s ts ++ x.data.toList) := by
    have h1 := spellN_addN s' (tails l) x
    rw [← hea] at h1
    unfold Hid; rw [← HSP.out]; exact h1
  have HBOX4 : Hid (Box (w4.alloc (.cells #[.string sa, .pointer (hp la)] 28)) w3.heap.size s' l ∧ Box (w4.alloc (.cells #[.string sa, .pointer (hp la)] 28)) w4.heap.size sa la) := ⟨(HBOX.out.below hb4).below (below_box _ _ _), Box.born hcha⟩
  have HST4 : Hid (Strs (w4.alloc (.cells #[.string sa, .pointer (hp la)] 28)) ao2 ts) := (HST3.out.below hb4 (Nat.le_refl _)).below (below_box _ _ _) (Nat.le_refl _)
  have HB4 : Hid (Below w.heap.size w (w4.alloc (.cells #[.string sa, .pointer (hp la)] 28))) := (HB3.out.trans (hb4.mono HB3.out.size)).trans ((below_box w4 _ _).mono (Nat.le_trans HB3.out.size hb4.size))
  have c0 := (HBOX.out.below hb4).1
  have c1 := (HBOX.out.below hb4).2.1
  have hz4 := cell_lt c0
  clear hea hcha hb4 HBOX HST3 HB3 HEA
  go_wp2_with fail
  refine (add_any s' y l _ HBOX4.out.1.2.2 (by rw [HLN.out]; have := HT.out; omega)).mono ?_
  rintro e w5 ⟨sb, lb, rfl, heb, hchb, _hmb, hb5⟩
  have HLNB : Hid (ln sb (tails lb) = s.size + tot 0 ts + y.size) := by
    have h1 := ln_addN s' (tails l) y
    rw [← heb] at h1
    unfold Hid; rw [← HLN.out]; exact h1
  have HSPB : Hid (spellN sb (tails lb) = modelL s ts ++ y.data.toList) := by
    have h1 := spellN_addN s' (tails l) y
    rw [← heb] at h1
    unfold Hid; rw [← HSP.out]; exact h1
  have HA5 : Hid (All3 w w3.heap.size s' l w4.heap.size sa la w5.heap.size sb lb ao2 ts (w5.alloc (.cells #[.string sb, .pointer (hp lb)] 28))) :=
    ⟨(HBOX4.out.1.below hb5).below (below_box _ _ _), (HBOX4.out.2.below hb5).below (below_box _ _ _), Box.born hchb, (HST4.out.below hb5 (Nat.le_refl _)).below (below_box _ _ _) (Nat.le_refl _), (HB4.out.trans (hb5.mono HB4.out.size)).trans ((below_box w5 _ _).mono (Nat.le_trans HB4.out.size hb5.size))⟩
  clear heb hchb hb5 HBOX4 HST4 HB4 c0 c1 hz4 _hma _hmb
  go_wp2_with fail
  refine (spell_any s ⟨#[]⟩ ao2 ts cap2 _ HA5.out.st HT.out.2 (by have := HT.out; show s.size + tot 0 ts + 0 ≤ _; omega)).mono ?_
  rintro e w6 ⟨⟨r0, rfl, hr0⟩, hb6⟩
  have HA6 : Hid (All3 w w3.heap.size s' l w4.heap.size sa la w5.heap.size sb lb ao2 ts w6) := HA5.out.below hb6
  have H0 : Hid (r0.data.toList = modelL s ts) := by unfold Hid; rw [hr0]; simp
  clear hr0 hb6 HA5
  go_wp2_with fail
  refine (spell_any s x ao2 ts cap2 _ HA6.out.st HT.out.2 (by have := HT.out; omega)).mono ?_
  rintro e w7 ⟨⟨r1, rfl, hr1⟩, hb7⟩
  have HA7 : Hid (All3 w w3.heap.size s' l w4.heap.size sa la w5.heap.size sb lb ao2 ts w7) := HA6.out.below hb7
  have H1 : Hid (r1.data.toList = modelL s ts ++ x.data.toList) := hr1
  clear hr1 hb7 HA6
  go_wp2_with fail
  refine (spell_any s y ao2 ts cap2 _ HA7.out.st HT.out.2 (by have := HT.out; omega)).mono ?_
  rintro e w8 ⟨⟨r2, rfl, hr2⟩, hb8⟩
  have HA8 : Hid (All3 w w3.heap.size s' l w4.heap.size sa la w5.heap.size sb lb ao2 ts w8) := HA7.out.below hb8
  have H2 : Hid (r2.data.toList = modelL s ts ++ y.data.toList) := hr2
  clear hr2 hb8 HA7
  have hz0 : r0.size = s.size + tot 0 ts := by rw [← size_list, H0.out, modelL_length]
  have hz1 : r1.size = s.size + tot 0 ts + x.size := by rw [← size_list, H1.out, List.length_append, modelL_length, size_list]
  have hz2 : r2.size = s.size + tot 0 ts + y.size := by rw [← size_list, H2.out, List.length_append, modelL_length, size_list]
  have HZ : Hid (r0.size = s.size + tot 0 ts ∧ r1.size = s.size + tot 0 ts + x.size ∧ r2.size = s.size + tot 0 ts + y.size) := ⟨hz0, hz1, hz2⟩
  have hr0 : r0.size ≤ 2097152 := by have := HT.out; omega
  have hr1 : r1.size ≤ 2097152 := by have := HT.out; omega
  have hr2 : r2.size ≤ 2097152 := by have := HT.out; omega
  clear hz0 hz1 hz2 hmd hm0 hm2 hpx hpy hpd hpd2
  have c0 := HA8.out.b1.1
  have c1 := HA8.out.b1.2.1
  go_wp2_with fail
  refine (len_b s' l r0.size _ HA8.out.b1.2.2 (by rw [HLN.out, HZ.out.1]) hr0).mono ?_
  rintro e w9 ⟨rfl, hb9⟩
  have HA9 : Hid (All3 w w3.heap.size s' l w4.heap.size sa la w5.heap.size sb lb ao2 ts w9) := HA8.out.below hb9
  clear hb9 HA8 c0 c1
  have c0 := HA9.out.b1.1
  have c1 := HA9.out.b1.2.1
  go_wp2_with fail
  refine (hasPrefix_as s' r0 l _ HA9.out.b1.2.2 (by rw [HLN.out]; have := HT.out; omega) true (by rw [HSP.out, H0.out]; exact pre_refl _)).mono ?_
  rintro e w10 ⟨rfl, hb10⟩
  have HA10 : Hid (All3 w w3.heap.size s' l w4.heap.size sa la w5.heap.size sb lb ao2 ts w10) := HA9.out.below hb10
  clear hb10 HA9 c0 c1
  have c0 := HA10.out.b1.1
  have c1 := HA10.out.b1.2.1
  go_wp2_with fail
  refine (hasPrefix_as s' r1 l _ HA10.out.b1.2.2 (by rw [HLN.out]; have := HT.out; omega) ((x.size : Int) == 0) (by rw [HSP.out, ← H0.out]; exact pre_more r0 r1 x _ H0.out H1.out)).mono ?_
  rintro e w11 ⟨rfl, hb11⟩
  have HA11 : Hid (All3 w w3.heap.size s' l w4.heap.size sa la w5.heap.size sb lb ao2 ts w11) := HA10.out.below hb11
  clear hb11 HA10 c0 c1
  have c0 := HA11.out.b2.1
  have c1 := HA11.out.b2.2.1
  go_wp2_with fail
  refine (len_b sa la r1.size _ HA11.out.b2.2.2 (by rw [HLNA.out, HZ.out.2.1]) hr1).mono ?_
  rintro e w12 ⟨rfl, hb12⟩
  have HA12 : Hid (All3 w w3.heap.size s' l w4.heap.size sa la w5.heap.size sb lb ao2 ts w12) := HA11.out.below hb12
  clear hb12 HA11 c0 c1
  have c0 := HA12.out.b2.1
  have c1 := HA12.out.b2.2.1
  go_wp2_with fail
  refine (hasPrefix_as sa r1 la _ HA12.out.b2.2.2 (by rw [HLNA.out]; have := HT.out; omega) true (by rw [HSPA.out, H1.out]; exact pre_refl _)).mono ?_
  rintro e w13 ⟨rfl, hb13⟩
  have HA13 : Hid (All3 w w3.heap.size s' l w4.heap.size sa la w5.heap.size sb lb ao2 ts w13) := HA12.out.below hb13
  clear hb13 HA12 c0 c1
  have c0 := HA13.out.b3.1
  have c1 := HA13.out.b3.2.1
  go_wp2_with fail
  refine (len_b sb lb r2.size _ HA13.out.b3.2.2 (by rw [HLNB.out, HZ.out.2.2]) hr2).mono ?_
  rintro e w14 ⟨rfl, hb14⟩
  have HA14 : Hid (All3 w w3.heap.size s' l w4.heap.size sa la w5.heap.size sb lb ao2 ts w14) := HA13.out.below hb14
  clear hb14 HA13 c0 c1
  have c0 := HA14.out.b3.1
  have c1 := HA14.out.b3.2.1
  go_wp2_with fail
  refine (hasPrefix_as sb r2 lb _ HA14.out.b3.2.2 (by rw [HLNB.out]; have := HT.out; omega) true (by rw [HSPB.out, H2.out]; exact pre_refl _)).mono ?_
  rintro e w15 ⟨rfl, hb15⟩
  have HA15 : Hid (All3 w w3.heap.size s' l w4.heap.size sa la w5.heap.size sb lb ao2 ts w15) := HA14.out.below hb15
  clear hb15 HA14 c0 c1
  obtain ⟨q1, hq1⟩ : ∃ q1, pre r2.data.toList r1.data.toList = q1 := ⟨_, rfl⟩
  have HQ1 : Hid (pre r2.data.toList r1.data.toList = q1) := hq1
  obtain ⟨q2, hq2⟩ : ∃ q2, pre r1.data.toList r2.data.toList = q2 := ⟨_, rfl⟩
  have HQ2 : Hid (pre r1.data.toList r2.data.toList = q2) := hq2
  clear hq1 hq2
  have c0 := HA15.out.b2.1
  have c1 := HA15.out.b2.2.1
  go_wp2_with fail
  refine (hasPrefix_as sa r2 la _ HA15.out.b2.2.2 (by rw [HLNA.out]; have := HT.out; omega) q1 (by rw [HSPA.out, ← H1.out]; exact HQ1.out)).mono ?_
  rintro e w16 ⟨rfl, hb16⟩
  have HA16 : Hid (All3 w w3.heap.size s' l w4.heap.size sa la w5.heap.size sb lb ao2 ts w16) := HA15.out.below hb16
  clear hb16 HA15 c0 c1
  go_wp2_with fail
  refine (isPrefix_as r2 r1 _ hr1 q1 HQ1.out).mono ?_
  rintro e w17 ⟨rfl, hb17⟩
  have HA17 : Hid (All3 w w3.heap.size s' l w4.heap.size sa la w5.heap.size sb lb ao2 ts w17) := HA16.out.below hb17
  clear hb17 HA16
  have c0 := HA17.out.b3.1
  have c1 := HA17.out.b3.2.1
  go_wp2_with fail
  refine (hasPrefix_as sb r1 lb _ HA17.out.b3.2.2 (by rw [HLNB.out]; have := HT.out; omega) q2 (by rw [HSPB.out, ← H2.out]; exact HQ2.out)).mono ?_
  rintro e w18 ⟨rfl, hb18⟩
  have HA18 : Hid (All3 w w3.heap.size s' l w4.heap.size sa la w5.heap.size sb lb ao2 ts w18) := HA17.out.below hb18
  clear hb18 HA17 c0 c1
  go_wp2_with fail
  refine (isPrefix_as r1 r2 _ hr2 q2 HQ2.out).mono ?_
  rintro e w19 ⟨rfl, hb19⟩
  have HA19 : Hid (All3 w w3.heap.size s' l w4.heap.size sa la w5.heap.size sb lb ao2 ts w19) := HA18.out.below hb19
  clear hb19 HA18
  go_wp2
  go_ret
  exact ⟨by simp, HA19.out.be⟩
end Go.Proofs.Qxb6603935a
