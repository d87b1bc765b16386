import Derived.Test.Qxb6603935aModel
import Derived.Test.Qxb6603935aGuards
namespace Go.Proofs.Qxb6603935a
open Go.RowKit

theorem tot_le (ts : List ByteArray) : tot 0 ts ≤ tot 16 ts ∧ ts.length ≤ tot 16 ts := by
  induction ts with
  | nil => simp [tot]
  | cons t r ih => simp only [tot, List.map_cons, List.sum_cons, List.length_cons] at ih ⊢; omega

set_option maxRecDepth 100000 in
set_option maxHeartbeats 1000000 in
theorem law3_any (s : ByteArray) (ao : Option Addr) (ts : List ByteArray) (cap : Nat) (p : ByteArray) (w : World) (hs : Strs w ao ts) (hl : ts.length ≤ maxLen) (hnil : ao = none → cap = 0) :
    Calls Try.prog 3 #[.string s, .slice ao ts.length cap, .string p] w fun e w' => e = .returned (.bool true) ∧ Below w.heap.size w w' := by
  have hnil2 : ao = none → cap = 0 ∧ ts = [] := fun h => ⟨hnil h, by
    rcases hs with h0 | ⟨b, off, h1, _⟩
    · exact h0
    · rw [h] at h1; cases h1⟩
  have hz := zzBytes7 s ao ts cap p w hs hl
  have hsz := b1Size_any s ao ts cap w hs hl
  have HS : Hid (Strs w ao ts) := hs
  have HNIL : Hid (ao = none → cap = 0 ∧ ts = []) := hnil2
  clear hs hnil hnil2 hl
  go_enter Try.func3, Try.ntmps3
  go_wp2_with fail
  refine hz.mono ?_
  clear hz
  rintro e wx ⟨⟨x, rfl⟩, hwx⟩
  rw [hwx]
  clear hwx wx
  cases x
  · go_wp2
    go_ret
    exact ⟨rfl, Below.refl _ _⟩
  go_wp2_with fail
  refine hsz.mono ?_
  clear hsz
  rintro e wx ⟨⟨m, rfl, hm⟩, hwx⟩
  rw [hwx]
  clear hwx wx
  rcases hm with rfl | ⟨hm, hm2⟩
  · go_wp2
    go_ret
    exact ⟨rfl, Below.refl _ _⟩
  have hmd : decide (1048576 < m) = false := decide_eq_false (by omega)
  have hm0 : 0 ≤ m := by omega
  have HM : Hid (m = ((s.size + tot 16 ts : Nat) : Int)) := hm
  clear hm
  by_cases hpp : 1048576 - m < (p.size : Int)
  · go_wp2
    go_ret
    exact ⟨rfl, Below.refl _ _⟩
  have hpd : decide (1048576 - m < (p.size : Int)) = false := decide_eq_false hpp
  have HT : Hid (s.size + tot 0 ts ≤ 1048576 ∧ ts.length ≤ 1048576) := by
    have h1 := HM.out; have h2 := tot_le ts; unfold Hid; omega
  go_wp2_with fail
  refine (clone_any ao ts cap w HS.out HT.out.2 HNIL.out).mono ?_
  rintro e w2 ⟨ao2, cap2, rfl, hst, hb2⟩
  have HST : Hid (Strs w2 ao2 ts) := hst
  clear hst
  go_wp2_with fail
  refine (build_any s ao2 ts cap2 w2 HST.out HT.out.2 HT.out.1).mono ?_
  rintro e w3 ⟨s', l, rfl, hbn, hch, hb3⟩
  have HBN : Hid ((s', tails l) = buildN s ts) := hbn
  have HCH : Hid (Chain w3 s' l) := hch
  have HST3 : Hid (Strs w3 ao2 ts) := HST.out.below hb3 (Nat.le_refl _)
  have HB3 : Hid (Below w.heap.size w w3) := hb2.trans (hb3.mono hb2.size)
  clear hbn hch hb2 hb3
  go_wp2_with fail
  have hb34 : Below w3.heap.size w3 (w3.alloc (.cells #[.string s', .pointer (hp l)] 28)) := (Below.refl _ _).alloc (Nat.le_refl _) _
  refine (spell_any s ⟨#[]⟩ ao2 ts cap2 _ (HST3.out.below hb34 (Nat.le_refl _)) HT.out.2 (by have := HT.out; show s.size + tot 0 ts + 0 ≤ _; omega)).mono ?_
  rintro e w5 ⟨⟨r, rfl, hr⟩, hb5⟩
  have c0 : w5.cell? ⟨w3.heap.size, 0, none⟩ = some (.string s') := (hb5.cell (p := ⟨w3.heap.size, 0, none⟩) (by simp)).trans (by simp [go_sem])
  have c1 : w5.cell? ⟨w3.heap.size, 1, none⟩ = some (.pointer (hp l)) := (hb5.cell (p := ⟨w3.heap.size, 1, none⟩) (by simp)).trans (by simp [go_sem])
  have hz5 := cell_lt c0
  have hb35 : Below w3.heap.size w3 w5 := hb34.trans (hb5.mono (by simp))
  have HB5 : Hid (Below w.heap.size w w5) := HB3.out.trans (hb35.mono HB3.out.size)
  have HC5 : Hid (Chain w5 s' l) := HCH.out.below hb35
  have HLN : Hid (ln s' (tails l) = s.size + tot 0 ts) := by
    have h1 := ln_buildN s ts
    rw [← HBN.out] at h1
    exact h1
  have HSP : Hid (spellN s' (tails l) = r.data.toList) := by
    have h1 := spell_buildN s ts
    rw [← HBN.out] at h1
    unfold Hid
    rw [hr]
    simpa using h1
  have HRS : Hid (r.size = s.size + tot 0 ts) := by
    unfold Hid
    rw [← size_list, ← HSP.out, spellN_length, HLN.out]
  clear hr hb5 hb34 hb35
  go_wp2_with fail
  refine (hasPrefix_any s' p l w5 HC5.out (by rw [HLN.out]; have := HT.out; omega)).mono ?_
  rintro e w6 ⟨rfl, hb6⟩
  rw [HSP.out]
  generalize hq : pre p.data.toList r.data.toList = q
  have HQ : Hid (pre p.data.toList r.data.toList = q) := hq
  clear hq c0 c1 hz5
  go_wp2_with fail
  refine (isPrefix_any p r w6 (by rw [HRS.out]; have := HT.out; omega)).mono ?_
  rintro e w7 ⟨rfl, hb7⟩
  rw [HQ.out]
  go_wp2
  go_ret
  refine ⟨by simp, ?_⟩
  exact HB5.out.trans ((hb6.trans (hb7.mono hb6.size)).mono HB5.out.size)
end Go.Proofs.Qxb6603935a
