import Derived.Test.Qxb6603935aSpell
import Derived.Lib.Strings
namespace Go.Proofs.Qxb6603935a
open Go.RowKit

set_option maxHeartbeats 400000 in
theorem part_start (s : ByteArray) (p : Option Addr) (i : Nat) (w : World) (hs : s.size ≤ 2097152) (hi : i < s.size) :
    Calls Try.prog 22 #[.agg #[.string s, .pointer p], .int .i64 (i : Int)] w fun e w' => e = .returned (.string (s.extract i s.size)) ∧ Below w.heap.size w w' := by
  go_enter Try.func22, Try.ntmps22
  go_wp2_with fail
  refine (link_start s p i _ hs hi).mono ?_
  rintro e w' ⟨rfl, hb⟩
  have hz : w.heap.size < w'.heap.size := by have := hb.size; simp at this; omega
  have c0 : w'.cell? ⟨w.heap.size, 0, none⟩ = some (.string s) := (hb.cell (p := ⟨w.heap.size, 0, none⟩) (by simp)).trans (by simp [go_sem])
  have HB : Hid (Below w.heap.size w w') := ((Below.refl _ _).alloc (Nat.le_refl _) _).trans (hb.mono (by simp))
  clear hb
  go_wp2
  go_ret
  exact ⟨rfl, HB.out⟩

set_option maxHeartbeats 1000000 in
theorem part_in (s t : ByteArray) (l r : List (Nat × ByteArray)) (b i : Nat) (w : World) (hc : Chain w s l) (hi : s.size ≤ i) (hil : i < ln s (tails l)) (hn : ln s (tails l) ≤ 2097152) (hf : findL s i l = (b, t) :: r) (hsuf : (b, t) :: r <:+ l) (h3 : ln s (tails r) ≤ i) (h4 : i < ln s (tails r) + t.size) :
    Calls Try.prog 22 #[.agg #[.string s, .pointer (hp l)], .int .i64 (i : Int)] w fun e w' => e = .returned (.string (t.extract (i - ln s (tails r)) t.size)) ∧ Below w.heap.size w w' := by
  go_enter Try.func22, Try.ntmps22
  go_wp2_with fail
  have hb0 : Below w.heap.size w (w.alloc (Obj.cells #[Value.string s, Value.pointer (hp l)] 28)) := (Below.refl _ _).alloc (Nat.le_refl _) _
  refine (link_in s l i _ (hc.below hb0) hi hil hn).mono ?_
  rintro e w' ⟨rfl, hb⟩
  rw [hf, hp_cons]
  have hbb := hb0.trans (hb.mono (by simp))
  obtain ⟨g0, g1, g2, g3, g4, g5, hr⟩ := (hc.suffix hsuf).below hbb
  have hsr := hr.sizeAt (by omega)
  have htb : t.size ≤ 2097152 := by
    have h1 : tails ((b, t) :: r) <:+ tails l := by obtain ⟨p, hp⟩ := hsuf; exact ⟨tails p, by rw [← hp]; simp [tails]⟩
    have h2 := ln_suffix s h1
    simp only [tails, List.map_cons, ln] at h2 hn
    omega
  have hbl := cell_lt g0
  obtain ⟨pr, hpr⟩ : ∃ pr, pr = hp r := ⟨_, rfl⟩
  rw [← hpr] at g1 hsr
  clear hc hf hsuf hb hb0 g3 g4 g5 hr hpr hil
  generalize hnr' : ln s (tails r) = nr at hsr h3 h4
  have HNR : Hid (ln s (tails r) = nr) := hnr'
  clear hnr' hn
  go_wp2_with fail
  obtain ⟨q, rfl⟩ : ∃ q, i = nr + q := ⟨i - nr, by omega⟩
  have hq : q < t.size := by omega
  have hsub : IntKind.i64.wrap (((nr : Int) + (q : Int)) - (nr : Int)) = (q : Int) := by rw [IntKind.wrap_i64]; omega
  have hq0 : (0 : Int) ≤ (q : Int) := by omega
  have hq1 : (q : Int) ≤ (t.size : Int) := by omega
  go_region_with (go_at_call 16; refine (len_raw s pr (nr : Int) _ (hsr.below ?_)).mono ?_; exact (Below.refl _ _).drew; rintro e w' ⟨rfl, rfl⟩)
  all_goals go_wp2
  all_goals
    go_ret
    exact ⟨by rw [HNR.out, Nat.add_sub_cancel_left]; rfl, (hbb.alloc hbb.size _).drew⟩

theorem part_any (s : ByteArray) (l : List (Nat × ByteArray)) (i : Nat) (w : World) (hc : Chain w s l) (hil : i < ln s (tails l)) (hn : ln s (tails l) ≤ 2097152) :
    Calls Try.prog 22 #[.agg #[.string s, .pointer (hp l)], .int .i64 (i : Int)] w fun e w' => e = .returned (.string (partOf s (tails l) i)) ∧ Below w.heap.size w w' := by
  by_cases hi : i < s.size
  · refine (part_start s (hp l) i w (by have := ln_ge s (tails l); omega) hi).mono ?_
    rintro e w' ⟨rfl, hb⟩
    exact ⟨by unfold partOf; rw [if_pos hi], hb⟩
  · obtain ⟨b, t, r, hf, hsuf, h3, h4⟩ := findL_spec s i (by omega) l hil
    refine (part_in s t l r b i w hc (by omega) hil hn hf hsuf h3 h4).mono ?_
    rintro e w' ⟨rfl, hb⟩
    refine ⟨?_, hb⟩
    have e2 : findT s i (tails l) = t :: tails r := by rw [← tails_findL, hf]; rfl
    unfold partOf
    rw [if_neg hi, e2]

theorem pre_short (P S X : List UInt8) (h : P.length ≤ S.length) (hs : S <+: X) : pre P S = pre P X := by
  cases e : pre P X
  · refine pre_false fun hp => ?_
    rw [pre_true (hp.trans hs)] at e
    cases e
  · exact pre_true (List.prefix_of_prefix_length_le (pre_iff.1 e) hs h)

theorem pre_eq (s p : ByteArray) (_h : p.size ≤ s.size) : ((s.extract 0 p.size).toList == p.toList) = pre p.data.toList s.data.toList := by
  rw [Lib.extract_toList, ByteArray.toList_eq, List.drop_zero, Nat.sub_zero]
  cases e : pre p.data.toList s.data.toList
  · simp only [beq_eq_false_iff_ne]
    intro hh
    have : p.data.toList <+: s.data.toList := by rw [← hh]; exact List.take_prefix _ _
    rw [pre_true this] at e
    cases e
  · obtain ⟨x, hx⟩ := pre_iff.1 e
    rw [← hx, ← size_list p, List.take_left]
    simp

set_option maxHeartbeats 400000 in
theorem strHasPrefix (s p : ByteArray) (w : World) :
    Calls Try.prog 21 #[.string s, .string p] w fun e w' => e = .returned (.bool (pre p.data.toList s.data.toList)) ∧ w' = w := by
  by_cases h : p.size ≤ s.size
  · have HP : Hid (((s.extract 0 p.size).toList == p.toList) = pre p.data.toList s.data.toList) := pre_eq s p h
    go_enter Try.func21, Try.ntmps21
    go_wp2
    go_ret
    exact ⟨by rw [← HP.out]; rfl, rfl⟩
  · have hd : decide ((p.size : Int) ≤ (s.size : Int)) = false := decide_eq_false (by omega)
    go_enter Try.func21, Try.ntmps21
    go_wp2
    go_ret
    exact ⟨by rw [pre_long (by rw [size_list, size_list]; omega)]; rfl, rfl⟩

set_option maxHeartbeats 400000 in
theorem hasPrefix_short (s p : ByteArray) (q : Option Addr) (w : World) (h : p.size ≤ s.size) :
    Calls Try.prog 12 #[.agg #[.string s, .pointer q], .string p] w fun e w' => e = .returned (.bool (pre p.data.toList s.data.toList)) ∧ Below w.heap.size w w' := by
  go_enter Try.func12, Try.ntmps12
  go_wp2_with fail
  refine (strHasPrefix s p _).mono ?_
  rintro e w' ⟨rfl, rfl⟩
  go_wp2
  go_ret
  exact ⟨rfl, (Below.refl _ _).alloc (Nat.le_refl _) _⟩

set_option maxHeartbeats 400000 in
theorem hasPrefix_long (s p : ByteArray) (l : List (Nat × ByteArray)) (w : World) (hc : Chain w s l) (hn : ln s (tails l) ≤ 2097152) (h : s.size < p.size) (h2 : ln s (tails l) < p.size) :
    Calls Try.prog 12 #[.agg #[.string s, .pointer (hp l)], .string p] w fun e w' => e = .returned (.bool false) ∧ Below w.heap.size w w' := by
  have hd : decide ((p.size : Int) ≤ (s.size : Int)) = false := decide_eq_false (by omega)
  have hsr := hc.sizeAt (by omega)
  have HSR : Hid (SizeAt w s (hp l) (ln s (tails l) : Nat)) := hsr
  clear hc hsr
  generalize ln s (tails l) = nl at *
  go_enter Try.func12, Try.ntmps12
  go_wp2_with fail
  refine (len_raw s (hp l) (nl : Int) _ (HSR.out.below ?_)).mono ?_
  · exact (Below.refl _ _).alloc (Nat.le_refl _) _
  rintro e w' ⟨rfl, rfl⟩
  go_wp2
  go_ret
  exact ⟨rfl, ((Below.refl _ _).alloc (Nat.le_refl _) _).alloc (by simp) _⟩

theorem cmpz (p q : ByteArray) (X : List UInt8) (k m : Nat) (hm : m = min q.size (p.size - k)) (hk : k ≤ p.size) (h : p.data.toList.take k = X.take k) (hq : q.data.toList <+: X.drop k) :
    ((!(q.extract 0 m).toList == (p.extract k (k + m)).toList) = false → p.data.toList.take (k + m) = X.take (k + m)) ∧ ((!(q.extract 0 m).toList == (p.extract k (k + m)).toList) = true → pre p.data.toList X = false) := by
  have hs := cmp_step p.data.toList X q.data.toList k m (by rw [size_list, size_list]; exact hm) (by rw [size_list]; exact hk) h hq
  rw [Lib.extract_toList, Lib.extract_toList, List.drop_zero, Nat.sub_zero, Nat.add_sub_cancel_left]
  constructor
  · intro hh
    exact hs.1 (by simpa using hh)
  · intro hh
    exact pre_false (hs.2 (by simpa using hh))
theorem cmpz_all (p q : ByteArray) (X : List UInt8) (k : Nat) (hm : q.size ≤ p.size - k) (hk : k ≤ p.size) (h : p.data.toList.take k = X.take k) (hq : q.data.toList <+: X.drop k) :
    ((!q.toList == (p.extract k (k + q.size)).toList) = false → p.data.toList.take (k + q.size) = X.take (k + q.size)) ∧ ((!q.toList == (p.extract k (k + q.size)).toList) = true → pre p.data.toList X = false) := by
  have := cmpz p q X k q.size (by omega) hk h hq
  have e : (q.extract 0 q.size).toList = q.toList := by rw [ByteArray.extract_zero_size]
  rwa [e] at this

set_option maxHeartbeats 1000000 in
theorem hasPrefix_loop (s p : ByteArray) (l : List (Nat × ByteArray)) (w : World) (hc : Chain w s l) (hn : ln s (tails l) ≤ 2097152) (h : s.size < p.size) (h2 : p.size ≤ ln s (tails l)) :
    Calls Try.prog 12 #[.agg #[.string s, .pointer (hp l)], .string p] w fun e w' => e = .returned (.bool (pre p.data.toList (spellN s (tails l)))) ∧ Below w.heap.size w w' := by
  have hd : decide ((p.size : Int) ≤ (s.size : Int)) = false := decide_eq_false (by omega)
  have HC : Hid (Chain w s l) := hc
  have HLN : Hid (p.size ≤ ln s (tails l) ∧ ln s (tails l) ≤ 2097152) := ⟨h2, hn⟩
  have hsr := hc.sizeAt (by omega)
  have HSR : Hid (SizeAt w s (hp l) (ln s (tails l) : Nat)) := hsr
  clear hc hsr
  obtain ⟨nl, hnl⟩ : ∃ nl, nl = ln s (tails l) := ⟨_, rfl⟩
  rw [← hnl] at HSR hn h2
  clear hnl
  have hps : p.size ≤ 2097152 := by omega
  have hd2 : decide (nl < p.size) = false := decide_eq_false (by omega)
  obtain ⟨res, hres⟩ : ∃ res, res = pre p.data.toList (spellN s (tails l)) := ⟨_, rfl⟩
  have HRES : Hid (res = pre p.data.toList (spellN s (tails l))) := hres
  rw [← hres]
  clear hres
  go_enter Try.func12, Try.ntmps12
  go_wp2_with fail
  refine (len_raw s (hp l) (nl : Int) _ (HSR.out.below ?_)).mono ?_
  · exact (Below.refl _ _).alloc (Nat.le_refl _) _
  rintro e w' ⟨rfl, rfl⟩
  go_wp2_with fail
  go_loopg [5] p.size (fun g i wr => ∃ k : Nat, k ≤ p.size ∧ g = p.size - k ∧ i = .int .i64 k ∧ Hid (p.data.toList.take k = (spellN s (tails l)).take k) ∧ Below (w.heap.size + 1) (w.alloc (.cells #[.string s, .pointer (hp l)] 28)) wr)
  case atStart => exact ⟨0, Nat.zero_le _, rfl, rfl, rfl, (Below.refl _ _).alloc (by simp) _⟩
  case round =>
    obtain ⟨k, hk, hg, rfl, HT, hbel⟩ := hrel
    have HB : Hid (Below w.heap.size w wr) := ((Below.refl _ _).alloc (Nat.le_refl _) _).trans (hbel.mono (by omega))
    have c0 : wr.cell? ⟨w.heap.size, 0, none⟩ = some (.string s) := (hbel.cell (p := ⟨w.heap.size, 0, none⟩) (Nat.lt_succ_self _)).trans (by simp [go_sem])
    have c1 : wr.cell? ⟨w.heap.size, 1, none⟩ = some (.pointer (hp l)) := (hbel.cell (p := ⟨w.heap.size, 1, none⟩) (Nat.lt_succ_self _)).trans (by simp [go_sem])
    have hz := cell_lt c0
    by_cases hlt : k < p.size
    · go_wp2_with fail
      refine (part_any s l k wr (HC.out.below HB.out) (by have := HLN.out; omega) (by have := HLN.out; omega)).mono ?_
      rintro e w2 ⟨rfl, hb2⟩
      have hps2 := part_spec s (tails l) k (by have := HLN.out; omega)
      have HBB : Hid (Below (w.heap.size + 1) (w.alloc (.cells #[.string s, .pointer (hp l)] 28)) w2) := hbel.trans (hb2.mono (by omega))
      have hqb : (partOf s (tails l) k).size ≤ 2097152 := by
        have := hps2.2.length_le
        rw [size_list, List.length_drop, spellN_length] at this
        have := HLN.out
        omega
      have HPS : Hid ((partOf s (tails l) k).data.toList <+: (spellN s (tails l)).drop k) := hps2.2
      have hq0 := hps2.1
      clear hps2 hbel c0 c1 hz hb2
      generalize partOf s (tails l) k = q at HPS hq0 hqb ⊢
      by_cases hmin : q.size ≤ p.size - k
      · have hA : (k : Int) + (q.size : Int) ≤ (p.size : Int) := by omega
        have hB : (k : Int) ≤ (k : Int) + (q.size : Int) := by omega
        have hW : IntKind.i64.wrap ((k : Int) + (q.size : Int)) = (k : Int) + (q.size : Int) := by rw [IntKind.wrap_i64]; omega
        have HZ : Hid _ := cmpz_all p q _ k hmin hk HT.out HPS.out
        have HBW : Hid (Below w.heap.size w w2) := ((Below.refl _ _).alloc (Nat.le_refl _) _).trans (HBB.out.mono (by omega))
        go_wp2_with fail
        go_region
        all_goals go_wp2
        · go_ret
          have e : res = false := by rw [HRES.out]; exact HZ.out.2 (by assumption)
          exact ⟨by rw [e]; rfl, HBW.out.drew⟩
        · go_roundg (p.size - (k + q.size))
          case measure => omega
          case rel => exact ⟨k + q.size, by omega, rfl, by go_num, HZ.out.1 (by assumption), HBB.out.drew⟩
      · obtain ⟨m, hm⟩ : ∃ m : Nat, (p.size : Int) - (k : Int) = (m : Int) := ⟨p.size - k, by omega⟩
        have hA : (k : Int) + (m : Int) ≤ (p.size : Int) := by omega
        have hB : (k : Int) ≤ (k : Int) + (m : Int) := by omega
        have hC : (m : Int) ≤ (q.size : Int) := by omega
        have hW : IntKind.i64.wrap ((k : Int) + (m : Int)) = (k : Int) + (m : Int) := by rw [IntKind.wrap_i64]; omega
        have HZ : Hid _ := cmpz p q _ k m (by omega) hk HT.out HPS.out
        have HBW : Hid (Below w.heap.size w w2) := ((Below.refl _ _).alloc (Nat.le_refl _) _).trans (HBB.out.mono (by omega))
        go_wp2_with fail
        go_region
        all_goals go_wp2
        · go_ret
          have e : res = false := by rw [HRES.out]; exact HZ.out.2 (by assumption)
          exact ⟨by rw [e]; rfl, HBW.out.drew⟩
        · go_roundg (p.size - (k + m))
          case measure => omega
          case rel => exact ⟨k + m, by omega, rfl, by go_num, HZ.out.1 (by assumption), HBB.out.drew⟩
    · go_wp2
      go_ret
      have e : res = true := by
        rw [HRES.out]
        apply pre_true
        apply cmp_end
        have := HT.out
        rwa [show k = p.data.toList.length by rw [size_list]; omega] at this
      exact ⟨by rw [e]; rfl, HB.out⟩

/-- Name.HasPrefix: whether the spelled-out name begins with p. -/
theorem hasPrefix_any (s p : ByteArray) (l : List (Nat × ByteArray)) (w : World) (hc : Chain w s l) (hn : ln s (tails l) ≤ 2097152) :
    Calls Try.prog 12 #[.agg #[.string s, .pointer (hp l)], .string p] w fun e w' => e = .returned (.bool (pre p.data.toList (spellN s (tails l)))) ∧ Below w.heap.size w w' := by
  by_cases h : p.size ≤ s.size
  · have e := pre_short p.data.toList s.data.toList (spellN s (tails l)) (by rw [size_list, size_list]; exact h) (spell_prefix s _)
    rw [← e]
    exact hasPrefix_short s p (hp l) w h
  · by_cases h2 : ln s (tails l) < p.size
    · rw [pre_long (by rw [size_list, spellN_length]; exact h2)]
      exact hasPrefix_long s p l w hc hn (by omega) h2
    · exact hasPrefix_loop s p l w hc hn (by omega) (by omega)
end Go.Proofs.Qxb6603935a
