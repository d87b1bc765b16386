import Derived.Test.Qxb6603935aName
import Derived.Test.Qxb6603935aClone
namespace Go.Proofs.Qxb6603935a
open Go.RowKit

def buildN (s : ByteArray) (ts : List ByteArray) : ByteArray × List ByteArray := ts.foldl (fun a t => addN a.1 a.2 t) (s, [])
theorem buildN_snoc (s : ByteArray) (ts : List ByteArray) (t : ByteArray) : buildN s (ts ++ [t]) = addN (buildN s ts).1 (buildN s ts).2 t := by simp [buildN]
theorem buildN_next (s : ByteArray) (ts : List ByteArray) (k : Nat) (h : k < ts.length) : buildN s (ts.take (k + 1)) = addN (buildN s (ts.take k)).1 (buildN s (ts.take k)).2 (ts.getD k ByteArray.empty) := by
  rw [take_next ts k h, buildN_snoc]
theorem ln_fold (s : ByteArray) (us : List ByteArray) : ∀ ts : List ByteArray, ln (ts.foldl (fun a t => addN a.1 a.2 t) (s, us)).1 (ts.foldl (fun a t => addN a.1 a.2 t) (s, us)).2 = ln s us + tot 0 ts := by
  intro ts
  induction ts generalizing s us with
  | nil => simp [tot]
  | cons t r ih =>
    rw [List.foldl_cons]
    have h := ih (addN s us t).1 (addN s us t).2
    rw [ln_addN] at h
    simp only [tot, List.map_cons, List.sum_cons] at h ⊢
    show ln (List.foldl _ ((addN s us t).1, (addN s us t).2) r).1 (List.foldl _ ((addN s us t).1, (addN s us t).2) r).2 = _
    rw [h]; omega
theorem ln_buildN (s : ByteArray) (ts : List ByteArray) : ln (buildN s ts).1 (buildN s ts).2 = s.size + tot 0 ts := ln_fold s [] ts
theorem tot_take (c : Nat) (ts : List ByteArray) (k : Nat) : tot c (ts.take k) ≤ tot c ts := by
  have h : tot c (ts.take k) + tot c (ts.drop k) = tot c ts := by
    simp only [tot]; rw [← List.sum_append, ← List.map_append, List.take_append_drop]
  omega

set_option maxHeartbeats 1000000 in
theorem build_full (s : ByteArray) (b off : Nat) (ts : List ByteArray) (cap : Nat) (w : World) (hs : ∀ k, k < ts.length → w.cell? ⟨b, off + k, none⟩ = some (.string (ts.getD k ByteArray.empty))) (hl : ts.length ≤ 1048576) (hn : s.size + tot 0 ts ≤ 1048576) :
    Calls Try.prog 10 #[.string s, .slice (some ⟨b, off, none⟩) ts.length cap] w fun e w' => ∃ s' l, e = .returned (.agg #[.string s', .pointer (hp l)]) ∧ (s', tails l) = buildN s ts ∧ Chain w' s' l ∧ Below w.heap.size w w' := by
  obtain ⟨n, hn'⟩ : ∃ n, n = ts.length := ⟨_, rfl⟩
  have HN : Hid (n = ts.length) := hn'
  rw [← hn'] at hl ⊢
  clear hn'
  have HT : Hid (s.size + tot 0 ts ≤ 1048576) := hn
  clear hn
  have HS : Hid (∀ k, k < ts.length → w.cell? ⟨b, off + k, none⟩ = some (.string (ts.getD k ByteArray.empty))) := hs
  clear hs
  go_enter Try.func10, Try.ntmps10
  go_wp2_with fail
  refine (newName_any s _).mono ?_
  rintro e w1 ⟨rfl, hb1⟩
  have hN1 : w.heap.size < w1.heap.size := by have := hb1.size; simp at this; omega
  have hbw : Below w.heap.size w w1 := ((Below.refl _ _).alloc (Nat.le_refl _) _).trans (hb1.mono (by simp))
  have HR0 : Hid (w1.cell? ⟨w.heap.size, 0, none⟩ = some (.string ⟨#[]⟩) ∧ w1.cell? ⟨w.heap.size, 1, none⟩ = some (.pointer none) ∧ w1.frozen? ⟨w.heap.size, 0, none⟩ = false ∧ w1.frozen? ⟨w.heap.size, 1, none⟩ = false) := by
    refine ⟨?_, ?_, ?_, ?_⟩
    · exact (hb1.cell (p := ⟨w.heap.size, 0, none⟩) (by simp)).trans (by simp [go_sem])
    · exact (hb1.cell (p := ⟨w.heap.size, 1, none⟩) (by simp)).trans (by simp [go_sem])
    · exact (hb1.frozen (p := ⟨w.heap.size, 0, none⟩) (by simp)).trans (by simp [go_sem])
    · exact (hb1.frozen (p := ⟨w.heap.size, 1, none⟩) (by simp)).trans (by simp [go_sem])
  clear hb1
  go_wp2_with fail
  go_loopg [6] n (fun g i wr => ∃ (k : Nat) (s' : ByteArray) (l : List (Nat × ByteArray)), k ≤ n ∧ g = n - k ∧ i = .int .i64 k ∧ wr.cell? ⟨w1.heap.size, 0, none⟩ = some (.string s') ∧ wr.cell? ⟨w1.heap.size, 1, none⟩ = some (.pointer (hp l)) ∧ wr.frozen? ⟨w1.heap.size, 0, none⟩ = false ∧ wr.frozen? ⟨w1.heap.size, 1, none⟩ = false ∧ (s', tails l) = buildN s (ts.take k) ∧ Chain wr s' l ∧ (∀ x ∈ l, w1.heap.size < x.1) ∧ Below w1.heap.size w1 wr)
  case atStart =>
    refine ⟨0, s, [], Nat.zero_le _, rfl, rfl, by simp [go_sem], by simp [go_sem, hp], by simp [go_sem], by simp [go_sem], rfl, trivial, by simp, ?_⟩
    exact (Below.refl _ _).alloc (Nat.le_refl _) _
  case round =>
    obtain ⟨k, s', l, hk, hg, rfl, c0, c1, f0, f1, hbn, hch, hmem, hbel⟩ := hrel
    by_cases hlt : k < n
    · have hck := HS.out k (by rw [← HN.out]; exact hlt)
      have hbl := cell_lt hck
      have hck2 := (hbel.cell (p := ⟨b, off + k, none⟩) (by show b < _; omega)).trans ((hbw.cell (p := ⟨b, off + k, none⟩) hbl).trans hck)
      have HB : Hid (buildN s (ts.take (k + 1)) = addN s' (tails l) (ts.getD k ByteArray.empty)) := by
        have := buildN_next s ts k (by rw [← HN.out]; exact hlt)
        rw [← hbn] at this
        exact this
      have hln : ln s' (tails l) + (ts.getD k ByteArray.empty).size ≤ 2097152 := by
        have e1 := ln_buildN s (ts.take k)
        rw [← hbn] at e1
        have e2 := tot_next 0 ts k (by rw [← HN.out]; exact hlt)
        have e3 := tot_take 0 ts (k + 1)
        have e4 := HT.out
        simp only at e1
        omega
      generalize ts.getD k ByteArray.empty = t at hck2 HB hln
      have hBl := cell_lt c0
      have HCH : Hid (Chain wr s' l) := hch
      have HM : Hid (∀ x ∈ l, w1.heap.size < x.1) := hmem
      have HLN : Hid (ln s' (tails l) + t.size ≤ 2097152) := hln
      clear hck hch hmem hbn hln
      obtain ⟨pl, hpl⟩ : ∃ pl, pl = hp l := ⟨_, rfl⟩
      rw [← hpl] at c1
      have HPL : Hid (pl = hp l) := hpl
      clear hpl
      go_wp2_with fail
      go_region_with (go_at_call 15; rw [HPL.out]; refine (add_any s' t l _ ?_ HLN.out).mono ?_; exact HCH.out.drew; rintro e w2 ⟨s2, l2, rfl, he2, hch2, hm2, hb2⟩; have q0 := (hb2.cell (p := ⟨w1.heap.size, 0, none⟩) hBl).trans c0; have q1 := (hb2.cell (p := ⟨w1.heap.size, 1, none⟩) hBl).trans c1; have p0 := (hb2.frozen (p := ⟨w1.heap.size, 0, none⟩) hBl).trans f0; have p1 := (hb2.frozen (p := ⟨w1.heap.size, 1, none⟩) hBl).trans f1; have HE2 : Hid ((s2, tails l2) = addN s' (tails l) t) := he2; clear he2)
      all_goals
        have hBl2 := cell_lt q0
        have HBB : Hid (Below w1.heap.size w1 w2) := hbel.trans ((Below.refl _ _).drew.trans (hb2.mono (by show w1.heap.size ≤ wr.heap.size; omega)))
        go_wp2
        go_roundg (n - (k + 1))
        case measure => omega
        case rel =>
          refine ⟨k + 1, s2, l2, by omega, rfl, by go_num, by go_simp, by go_simp, by go_simp, by go_simp, by rw [HB.out]; exact HE2.out, ?_, ?_, ?_⟩
          · have hne : ∀ x ∈ l2, w1.heap.size < x.1 := fun x hx => by
              rcases hm2 x hx with h | h
              · exact HM.out x h
              · have : w1.heap.size < wr.heap.size := hBl
                exact Nat.lt_of_lt_of_le this h
            exact (hch2.setCell _ (fun x hx => by have := hne x hx; show x.1 ≠ w1.heap.size; omega)).setCell _ (fun x hx => by have := hne x hx; show x.1 ≠ w1.heap.size; omega)
          · intro x hx
            rcases hm2 x hx with h | h
            · exact HM.out x h
            · have : w1.heap.size < wr.heap.size := hBl
              exact Nat.lt_of_lt_of_le this h
          · exact (HBB.out.setCell (Nat.le_refl _) _).setCell (Nat.le_refl _) _
    · have hkn : k = n := by omega
      subst hkn
      obtain ⟨r0, r1, r2, r3⟩ := HR0.out
      have z0 := (hbel.cell (p := ⟨w.heap.size, 0, none⟩) hN1).trans r0
      have z1 := (hbel.cell (p := ⟨w.heap.size, 1, none⟩) hN1).trans r1
      have z2 := (hbel.frozen (p := ⟨w.heap.size, 0, none⟩) hN1).trans r2
      have z3 := (hbel.frozen (p := ⟨w.heap.size, 1, none⟩) hN1).trans r3
      have hNr := cell_lt z0
      have HBN : Hid ((s', tails l) = buildN s (ts.take k)) := hbn
      have HCH : Hid (Chain wr s' l) := hch
      have HM : Hid (∀ x ∈ l, w1.heap.size < x.1) := hmem
      clear r0 r1 r2 r3 hbn hch hmem
      go_wp2
      refine bodyPost_ret (v := .agg #[.string s', .pointer (hp l)]) (by simp [results, Try.results10, go_sem]; go_simp) rfl ⟨s', l, rfl, by rw [HBN.out, HN.out, List.take_length], ?_, ?_⟩
      · exact (HCH.out.setCell _ (fun x hx => by have := HM.out x hx; show x.1 ≠ w.heap.size; omega)).setCell _ (fun x hx => by have := HM.out x hx; show x.1 ≠ w.heap.size; omega)
      · exact ((hbw.trans (hbel.mono (by omega))).setCell (Nat.le_refl _) _).setCell (Nat.le_refl _) _

set_option maxHeartbeats 400000 in
theorem build_empty (s : ByteArray) (ao : Option Addr) (cap : Nat) (w : World) :
    Calls Try.prog 10 #[.string s, .slice ao 0 cap] w fun e w' => e = .returned (.agg #[.string s, .pointer none]) ∧ Below w.heap.size w w' := by
  go_enter Try.func10, Try.ntmps10
  go_wp2_with fail
  refine (newName_any s _).mono ?_
  rintro e w1 ⟨rfl, hb1⟩
  have hN1 : w.heap.size < w1.heap.size := by have := hb1.size; simp at this; omega
  have HBW : Hid (Below w.heap.size w w1) := ((Below.refl _ _).alloc (Nat.le_refl _) _).trans (hb1.mono (by simp))
  have z0 : w1.cell? ⟨w.heap.size, 0, none⟩ = some (.string ⟨#[]⟩) := (hb1.cell (p := ⟨w.heap.size, 0, none⟩) (by simp)).trans (by simp [go_sem])
  have z1 : w1.cell? ⟨w.heap.size, 1, none⟩ = some (.pointer none) := (hb1.cell (p := ⟨w.heap.size, 1, none⟩) (by simp)).trans (by simp [go_sem])
  have z2 : w1.frozen? ⟨w.heap.size, 0, none⟩ = false := (hb1.frozen (p := ⟨w.heap.size, 0, none⟩) (by simp)).trans (by simp [go_sem])
  have z3 : w1.frozen? ⟨w.heap.size, 1, none⟩ = false := (hb1.frozen (p := ⟨w.heap.size, 1, none⟩) (by simp)).trans (by simp [go_sem])
  clear hb1
  go_wp2_with fail
  go_loopg [6] 0 (fun g i wr => i = .int .i64 0 ∧ wr = w1.alloc (.cells #[.string s, .pointer none] 28))
  case atStart => exact ⟨rfl, rfl⟩
  case round =>
    obtain ⟨rfl, rfl⟩ := hrel
    go_wp2
    refine bodyPost_ret (v := .agg #[.string s, .pointer none]) (by simp [results, Try.results10, go_sem]; go_simp) rfl ⟨rfl, ?_⟩
    exact ((HBW.out.setCell (p := ⟨w.heap.size, 0, none⟩) (Nat.le_refl _) _).setCell (p := ⟨w.heap.size, 1, none⟩) (Nat.le_refl _) _).alloc (by simp; omega) _

theorem build_any (s : ByteArray) (ao : Option Addr) (ts : List ByteArray) (cap : Nat) (w : World) (hs : Strs w ao ts) (hl : ts.length ≤ 1048576) (hn : s.size + tot 0 ts ≤ 1048576) :
    Calls Try.prog 10 #[.string s, .slice ao ts.length cap] w fun e w' => ∃ s' l, e = .returned (.agg #[.string s', .pointer (hp l)]) ∧ (s', tails l) = buildN s ts ∧ Chain w' s' l ∧ Below w.heap.size w w' := by
  rcases hs with rfl | ⟨b, off, rfl, hc⟩
  · refine (build_empty s ao cap w).mono ?_
    rintro e w' ⟨rfl, hb⟩
    exact ⟨s, [], rfl, rfl, trivial, hb⟩
  · exact build_full s b off ts cap w hc hl hn
end Go.Proofs.Qxb6603935a
