import Derived.Test.Qxb6603935aLink
namespace Go.Proofs.Qxb6603935a
open Go.RowKit

theorem findL_spec (s : ByteArray) (i : Nat) (h1 : s.size ≤ i) : ∀ l, i < ln s (tails l) → ∃ b t r, findL s i l = (b, t) :: r ∧ (b, t) :: r <:+ l ∧ ln s (tails r) ≤ i ∧ i < ln s (tails r) + t.size
  | [], h => absurd h (by simp only [tails, List.map_nil, ln]; omega)
  | (b, t) :: r, h => by
    by_cases hr : i < ln s (tails r)
    · obtain ⟨b2, t2, r2, e, hs, h3, h4⟩ := findL_spec s i h1 r hr
      exact ⟨b2, t2, r2, by simp only [findL]; rw [if_pos hr]; exact e, hs.trans (List.suffix_cons _ _), h3, h4⟩
    · exact ⟨b, t, r, by simp only [findL]; rw [if_neg hr], List.suffix_refl _, by omega, by simpa [tails, ln] using h⟩

theorem zzlink_start (s : ByteArray) (p : Option Addr) (i : Nat) (w : World) (hs : s.size ≤ 2097152) (hi : i < s.size) :
    Calls Try.prog 19 #[.agg #[.string s, .pointer p], .int .i64 (i : Int)] w fun e w' => e = .returned (.tuple #[.bool true, .int .i64 0, .string ⟨#[]⟩]) ∧ Below w.heap.size w w' := by
  go_enter Try.func19, Try.ntmps19
  go_wp2_with fail
  refine (link_start s p i _ hs hi).mono ?_
  rintro e w' ⟨rfl, hb⟩
  go_wp2
  go_ret3
  exact ⟨rfl, ((Below.refl _ _).alloc (Nat.le_refl _) _).trans (hb.mono (by simp))⟩

set_option maxHeartbeats 1000000 in
theorem zzlink_in (s t : ByteArray) (l r : List (Nat × ByteArray)) (b i : Nat) (w : World) (hc : Chain w s l) (hi : s.size ≤ i) (hil : i < ln s (tails l)) (hn : ln s (tails l) ≤ 2097152) (hf : findL s i l = (b, t) :: r) (hsuf : (b, t) :: r <:+ l) :
    Calls Try.prog 19 #[.agg #[.string s, .pointer (hp l)], .int .i64 (i : Int)] w fun e w' => e = .returned (.tuple #[.bool false, .int .i64 (ln s (tails r) : Nat), .string t]) ∧ Below w.heap.size w w' := by
  go_enter Try.func19, Try.ntmps19
  go_wp2_with fail
  have hb0 : Below w.heap.size w (w.alloc (Obj.cells #[Value.string s, Value.pointer (hp l)] 28)) := (Below.refl _ _).alloc (Nat.le_refl _) _
  refine (link_in s l i _ (hc.below hb0) hi hil hn).mono ?_
  rintro e w' ⟨rfl, hb⟩
  rw [hf, hp_cons]
  have hbb := hb0.trans (hb.mono (by simp))
  obtain ⟨g0, g1, g2, g3, g4, g5, hr⟩ := (hc.suffix hsuf).below hbb
  have hnr : ln s (tails r) ≤ 2097152 := by
    have h1 : tails ((b, t) :: r) <:+ tails l := by obtain ⟨p, hp⟩ := hsuf; exact ⟨tails p, by rw [← hp]; simp [tails]⟩
    have h2 := ln_suffix s h1
    simp only [tails, List.map_cons, ln] at h2 hn ⊢
    omega
  have hsr := hr.sizeAt (by omega)
  have hbl := cell_lt g0
  obtain ⟨pr, hpr⟩ : ∃ pr, pr = hp r := ⟨_, rfl⟩
  rw [← hpr] at g1 hsr
  clear hc hf hsuf hb hb0 g3 g4 g5 hr hpr hil hn
  generalize hnr' : ln s (tails r) = nr at hsr hnr
  have HNR : Hid (ln s (tails r) = nr) := hnr'
  clear hnr'
  go_wp2_with fail
  go_region_with (go_at_call 16; refine (len_raw s pr (nr : Int) _ (hsr.below ?_)).mono ?_; exact (Below.refl _ _).drew; rintro e w' ⟨rfl, rfl⟩)
  all_goals go_wp2
  all_goals
    go_ret3
    exact ⟨by rw [HNR.out]; rfl, (hbb.alloc hbb.size _).drew⟩
end Go.Proofs.Qxb6603935a
