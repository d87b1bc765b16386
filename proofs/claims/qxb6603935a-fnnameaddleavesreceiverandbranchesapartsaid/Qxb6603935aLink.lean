import Derived.Test.Qxb6603935aName
import Derived.Deep.LoopGhost
namespace Go.Proofs.Qxb6603935a
open Go.RowKit

theorem hp_cons (b : Nat) (t : ByteArray) (r : List (Nat × ByteArray)) : hp ((b, t) :: r) = some ⟨b, 0, none⟩ := rfl

theorem link_start (s : ByteArray) (p : Option Addr) (i : Nat) (w : World) (_hs : s.size ≤ 2097152) (_hi : i < s.size) :
    Calls Try.prog 25 #[.agg #[.string s, .pointer p], .int .i64 (i : Int)] w fun e w' => e = .returned (.pointer none) ∧ Below w.heap.size w w' := by
  go_enter Try.func25, Try.ntmps25
  go_wp2
  go_ret
  exact ⟨rfl, (Below.refl _ _).alloc (Nat.le_refl _) _⟩

set_option maxHeartbeats 1000000 in
theorem link_in (s : ByteArray) (l : List (Nat × ByteArray)) (i : Nat) (w : World) (hc : Chain w s l) (hi : s.size ≤ i) (hil : i < ln s (tails l)) (hn : ln s (tails l) ≤ 2097152) :
    Calls Try.prog 25 #[.agg #[.string s, .pointer (hp l)], .int .i64 (i : Int)] w fun e w' => e = .returned (.pointer (hp (findL s i l))) ∧ Below w.heap.size w w' := by
  have HC : Hid (Chain w s l) := hc
  obtain ⟨pl, hpl⟩ : ∃ pl, pl = hp l := ⟨_, rfl⟩
  rw [← hpl]
  have HPL : Hid (pl = hp l) := hpl
  obtain ⟨res, hres⟩ : ∃ res, res = hp (findL s i l) := ⟨_, rfl⟩
  rw [← hres]
  have HRES : Hid (res = hp (findL s i l)) := hres
  have HIL : Hid (i < ln s (tails l)) := hil
  have HN : Hid (ln s (tails l) ≤ 2097152) := hn
  have hsz : s.size ≤ 2097152 := by omega
  have hiz : i < 2097152 := by omega
  have hdec : decide (i < s.size) = false := decide_eq_false (by omega)
  clear hc hpl hres hil hn
  go_enter Try.func25, Try.ntmps25
  go_wp2_with fail
  go_loopg [5] l.length (fun k p wr => ∃ cur : List (Nat × ByteArray), cur <:+ l ∧ cur.length = k ∧ p = .pointer (hp cur) ∧ i < ln s (tails cur) ∧ findL s i cur = findL s i l ∧ Below w.heap.size w wr)
  case atStart => exact ⟨l, List.suffix_refl _, rfl, by rw [← HPL.out], HIL.out, rfl, (Below.refl _ _).alloc (Nat.le_refl _) _⟩
  case round =>
    obtain ⟨cur, hsuf, hlen, rfl, hic, hfind, hbel⟩ := hrel
    match cur, hsuf, hlen, hic, hfind with
    | [], _, _, hic, _ => exact absurd hic (by simp only [tails, List.map_nil, ln]; omega)
    | (b, t) :: r, hsuf, hlen, hic, hfind =>
      obtain ⟨g0, g1, g2, g3, g4, ⟨u, hu, g5⟩, hr⟩ := (HC.out.suffix hsuf).below hbel
      have hnr : ln s (tails r) ≤ 2097152 := by
        have h1 : tails ((b, t) :: r) <:+ tails l := by obtain ⟨p, hp⟩ := hsuf; exact ⟨tails p, by rw [← hp]; simp [tails]⟩
        have h2 := ln_suffix s h1
        have h3 := HN.out
        simp only [tails, List.map_cons, ln] at h2 h3 ⊢
        omega
      have hsr := hr.sizeAt (by omega)
      have HU := hr.suffix hu
      have HG : Hid (findL s i ((b, t) :: r) = findL s i l) := hfind
      have hbl := cell_lt g0
      have HSR : r <:+ l := (List.suffix_cons _ _).trans hsuf
      simp only [List.length_cons] at hlen
      clear hfind g2 g3 g4 hr hic
      generalize hnr' : ln s (tails r) = nr at hsr hnr
      have HNR : Hid (ln s (tails r) = nr) := hnr'
      clear hnr'
      obtain ⟨pr, hpr⟩ : ∃ pr, pr = hp r := ⟨_, rfl⟩
      rw [← hpr] at g1 hsr
      have HPR : Hid (pr = hp r) := hpr
      clear hpr
      rw [hp_cons]
      by_cases hgo : i < nr
      · have HF : Hid (findL s i r = findL s i l) := by rw [← HG.out]; show _ = if _ then _ else _; rw [HNR.out, if_pos hgo]
        cases u with
        | nil =>
          clear HU hu
          replace g5 : wr.cell? ⟨b, 5, none⟩ = some (.pointer none) := g5
          go_wp2_with (go_at_call 16; refine (len_raw s pr (nr : Int) _ hsr).mono ?_; rintro e w' ⟨rfl, rfl⟩)
          go_roundg r.length
          case measure => omega
          case rel => exact ⟨r, HSR, rfl, by rw [HPR.out], by rw [HNR.out]; exact hgo, HF.out, hbel.alloc (hbel.size) _⟩
        | cons x r2 =>
          obtain ⟨b2, t2⟩ := x
          have k3 := HU.2.2.2.1
          have hb2 := cell_lt k3
          have hul := hu.length_le
          simp only [List.length_cons] at hul
          have HUF : Hid (i < ln s (tails ((b2, t2) :: r2)) → findL s i ((b2, t2) :: r2) = findL s i l) := fun h => by rw [← HF.out]; exact (findL_suffix s i hu h).symm
          have HUS : Hid ((b2, t2) :: r2 <:+ l) := hu.trans HSR
          have HUL : Hid (ln s (tails ((b2, t2) :: r2)) = ln s (tails r2) + t2.size) := rfl
          replace g5 : wr.cell? ⟨b, 5, none⟩ = some (.pointer (some ⟨b2, 0, none⟩)) := g5
          generalize hz : ln s (tails r2) + t2.size = z at k3 HUL
          clear HU hu hz
          by_cases hz2 : i < z
          · go_wp2_with (go_at_call 16; refine (len_raw s pr (nr : Int) _ hsr).mono ?_; rintro e w' ⟨rfl, rfl⟩)
            go_roundg (r2.length + 1)
            case measure => omega
            case rel => exact ⟨(b2, t2) :: r2, HUS.out, rfl, rfl, by rw [HUL.out]; exact hz2, HUF.out (by rw [HUL.out]; exact hz2), hbel.alloc (hbel.size) _⟩
          · go_wp2_with (go_at_call 16; refine (len_raw s pr (nr : Int) _ hsr).mono ?_; rintro e w' ⟨rfl, rfl⟩)
            go_roundg r.length
            case measure => omega
            case rel => exact ⟨r, HSR, rfl, by rw [HPR.out], by rw [HNR.out]; exact hgo, HF.out, hbel.alloc (hbel.size) _⟩
      · have HE : Hid (res = some ⟨b, 0, none⟩) := by
          have e := HRES.out
          rw [e, ← HG.out]
          show hp (if _ then _ else _) = _
          rw [HNR.out, if_neg hgo]
          rfl
        clear g5 HU hu
        go_wp2_with (go_at_call 16; refine (len_raw s pr (nr : Int) _ hsr).mono ?_; rintro e w' ⟨rfl, rfl⟩)
        go_ret
        exact ⟨by rw [HE.out]; rfl, hbel.alloc (hbel.size) _⟩
end Go.Proofs.Qxb6603935a
