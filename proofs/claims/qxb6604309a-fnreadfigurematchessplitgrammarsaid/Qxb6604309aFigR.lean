import Derived.Test.Qxb6604309aFigM
namespace Go.Proofs.Qxb6604309a
open Go.RowKit

def AnsA (l : List UInt8) (x : Option (Nat × List UInt8 × Int)) (e : Ending) : Prop :=
  ∃ (W F : ByteArray) (P Q : Int) (ok : Bool), e = .returned (.tuple #[.agg #[.string W, .string F, .int .i64 P, .int .i64 Q], .bool ok]) ∧ Ans l x W F P Q ok

/-- Behind the significand. -/
def readS (n : Nat) (F : ByteArray) (r : List UInt8) : Option (Nat × List UInt8 × Int) :=
  if n + F.size = 0 then none else (expP r).map fun e => (n, F.data.toList, e)

/-- expP, told by positions. -/
theorem expP_at (s : ByteArray) (j k2 : Nat) (hE : isE (hd (s.data.toList.drop j)) = true) (hk : s.data.toList.drop k2 = if isS (hd (s.data.toList.drop (j + 1))) then s.data.toList.drop (j + 1 + 1) else s.data.toList.drop (j + 1)) :
    expP (s.data.toList.drop j) = if cntD (s.data.toList.drop k2) = 0 ∨ cntD (s.data.toList.drop k2) ≠ (s.data.toList.drop k2).length then none else some (if hd (s.data.toList.drop (j + 1)) = 45 then - capL 0 (s.data.toList.drop k2) else capL 0 (s.data.toList.drop k2)) := by
  unfold expP
  rw [if_pos hE, drop_tail, drop_tail, ← hk]
theorem expP_end (s : ByteArray) (j : Nat) (hj : j ≤ s.size) (hE : isE (hd (s.data.toList.drop j)) = false) : expP (s.data.toList.drop j) = if j = s.size then some 0 else none := by
  unfold expP
  rw [if_neg (by simp [hE])]
  by_cases h : j = s.size
  · rw [if_pos h, if_pos (by rw [h, List.drop_of_length_le (by rw [size_list]; omega)])]
  · rw [if_neg h, if_neg]
    intro e
    have := congrArg List.length e
    rw [List.length_drop, size_list] at this; simp at this; omega

theorem lead0_dgt (D : List UInt8) (k : Nat) (h : k < D.length) : lead0 (D.drop k) = if dgt D k = 0 then lead0 (D.drop (k + 1)) + 1 else 0 := by
  have e : dgt D k = (D[k].toNat : Int) - 48 := by
    unfold dgt
    rw [if_pos ⟨by omega, by omega⟩, Int.toNat_natCast, List.getD_eq_getElem?_getD, List.getElem?_eq_getElem h]
    rfl
  rw [List.drop_eq_getElem_cons h, e]
  by_cases h1 : D[k].toNat = 48
  · rw [lead0_cons0 h1, if_pos (by omega)]
  · rw [lead0_cons1 h1, if_neg (by omega)]

theorem cell_lt {w : World} {b o : Nat} {v : Value} (h : w.cell? ⟨b, o, none⟩ = some v) : b < w.heap.size := by
  by_cases hb : b < w.heap.size
  · exact hb
  · exfalso
    have : w.heap[b]? = none := by simp; omega
    simp [World.cell?, this] at h

theorem n_below (a b : ByteArray) (p q : Int) (w : World) (h : a.size + b.size ≤ 4194304) :
    Calls Try.prog 19 #[.agg #[.string a, .string b, .int .i64 p, .int .i64 q]] w fun e w' => e = .returned (.int .i64 ((a.size : Int) + (b.size : Int))) ∧ Below w.heap.size w w' := by
  refine (n_any a b p q w h).mono ?_
  rintro e w' ⟨rfl, rfl⟩
  exact ⟨rfl, (Below.refl _ _).alloc (Nat.le_refl _) _⟩

set_option maxRecDepth 100000 in
set_option maxHeartbeats 4000000 in
theorem readFigure_any (s : ByteArray) (w : World) (hs : s.size ≤ 1048576) :
    Calls Try.prog 12 #[.string s] w fun e w' => AnsA s.data.toList (readP s.data.toList) e ∧ Below w.heap.size w w' := by
  obtain ⟨x, hx⟩ : ∃ x, x = readP s.data.toList := ⟨_, rfl⟩
  have HX : Hid (x = readQ (cntD s.data.toList) (s.data.toList.drop (cntD s.data.toList))) := hx
  rw [← hx]
  clear hx
  have HBAD : Hid (x = none → AnsA s.data.toList x (.returned (.tuple #[.agg #[.string ⟨#[]⟩, .string ⟨#[]⟩, .int .i64 0, .int .i64 0], .bool false]))) :=
    fun h => ⟨_, _, _, _, _, rfl, .inl ⟨h, rfl, rfl, rfl, rfl, rfl⟩⟩
  go_enter Try.func12, Try.ntmps12
  go_upto_region 1 with fail
  obtain ⟨W0, hW0⟩ : ∃ W0, W0 = w.alloc (.cells #[.string ⟨#[]⟩, .string ⟨#[]⟩, .int .i64 0, .int .i64 0] 31) := ⟨_, rfl⟩
  have hb0 : Below w.heap.size w W0 := by rw [hW0]; exact (Below.refl _ _).alloc (Nat.le_refl _) _
  have c0 : W0.cell? ⟨w.heap.size, 0, none⟩ = some (.string ⟨#[]⟩) := by rw [hW0]; simp [go_sem]
  have c1 : W0.cell? ⟨w.heap.size, 1, none⟩ = some (.string ⟨#[]⟩) := by rw [hW0]; simp [go_sem]
  have c2 : W0.cell? ⟨w.heap.size, 2, none⟩ = some (.int .i64 0) := by rw [hW0]; simp [go_sem]
  have c3 : W0.cell? ⟨w.heap.size, 3, none⟩ = some (.int .i64 0) := by rw [hW0]; simp [go_sem]
  have f0 : W0.frozen? ⟨w.heap.size, 0, none⟩ = false := by rw [hW0]; simp [go_sem]
  have f1 : W0.frozen? ⟨w.heap.size, 1, none⟩ = false := by rw [hW0]; simp [go_sem]
  have f2 : W0.frozen? ⟨w.heap.size, 2, none⟩ = false := by rw [hW0]; simp [go_sem]
  have f3 : W0.frozen? ⟨w.heap.size, 3, none⟩ = false := by rw [hW0]; simp [go_sem]
  have hN : w.heap.size < W0.heap.size := by rw [hW0]; simp
  rw [← hW0]
  clear hW0
  have HB0 : Hid (Below w.heap.size w W0) := hb0
  clear hb0
  go_upto_block 0 with fail
  go_cut [4] (fun v wx => v = .int .i64 ((cntD s.data.toList : Nat) : Int) ∧ wx = W0)
  case first =>
    as_aux_lemma =>
      obtain ⟨res, hres⟩ : ∃ res, res = cntD s.data.toList := ⟨_, rfl⟩
      have HRES : Hid (res = cntD s.data.toList) := hres
      clear hres
      go_wp2_with fail
      go_loop [4] (fun v => ∃ k : Nat, k ≤ s.size ∧ v = .int .i64 k ∧ Hid (k + cntD (s.data.toList.drop k) = res)) (fun v => s.size - (intOf v).toNat)
      case atStart => exact ⟨0, Nat.zero_le _, rfl, by unfold Hid; rw [HRES.out]; simp⟩
      case round =>
        obtain ⟨k, hk, rfl, HK⟩ := hrel
        by_cases hlt : k < s.size
        · have HCC : Hid (cntD (s.data.toList.drop k) = if isD s[k].toNat then cntD (s.data.toList.drop (k + 1)) + 1 else 0) := cntD_at s k hlt
          rcases Bool.eq_false_or_eq_true (isD s[k].toNat) with hh | hh
          · have HN : Hid (k + 1 + cntD (s.data.toList.drop (k + 1)) = res) := by
              have h1 := HK.out
              rw [HCC.out, if_pos hh] at h1
              unfold Hid; omega
            go_wp2_with (go_at_call 18; refine (isDigit_any _ _).mono ?_; rintro e w' ⟨rfl, rfl⟩)
            go_round
            case rel => exact ⟨k + 1, by omega, by go_num, HN.out⟩
            case measure => simp [intOf]; omega
          · have HN : Hid (k = res) := by
              have h1 := HK.out
              rw [HCC.out, if_neg (by simp [hh])] at h1
              exact h1
            go_wp2_with (go_at_call 18; refine (isDigit_any _ _).mono ?_; rintro e w' ⟨rfl, rfl⟩)
            go_meet
            exact ⟨by rw [← HRES.out, HN.out], rfl⟩
        · have HN : Hid (k = res) := by
            have h1 := HK.out
            rw [cntD_end s k (by omega)] at h1
            exact h1
          go_wp2_with fail
          go_meet
          exact ⟨by rw [← HRES.out, HN.out], rfl⟩
  case rest =>
    obtain ⟨rfl, rfl⟩ := hcut
    have hil := cntD_le s.data.toList
    rw [size_list] at hil
    have HAI : Hid (AllD (s.data.toList.take (cntD s.data.toList))) := cntD_take _
    generalize cntD s.data.toList = i at *
    go_upto_region 5 with fail
    obtain ⟨W, hW⟩ : ∃ W, W = s.extract 0 i := ⟨_, rfl⟩
    have HW : Hid (W.data.toList = s.data.toList.take i) := by unfold Hid; rw [hW, Lib.extract_data]; simp
    have hwz : W.size = i := by rw [← size_list, HW.out, List.length_take, size_list]; omega
    rw [← hW]
    have HWZ : Hid (W.size = i) := hwz
    have hWz : W.size ≤ 1048576 := by omega
    clear hW hwz
    go_upto_region 6 with fail
    go_cut [36] (fun c wx => c = .bool (decide (hd (s.data.toList.drop i) = 46)) ∧ wx = wc)
    case first =>
      as_aux_lemma =>
        by_cases hlt : i < s.size
        · have e0 := hd_at s i hlt
          by_cases h0 : s[i].toNat = 46
          · have b0 : ((s[i].toNat : Int) == 46) = true := by simp [h0]
            have HF : Hid (decide (hd (s.data.toList.drop i) = 46) = true) := by unfold Hid; rw [e0]; simp [h0]
            clear e0 h0
            go_wp2
            go_meet
            exact ⟨by rw [HF.out], rfl⟩
          · have b0 : ((s[i].toNat : Int) == 46) = false := by simp; omega
            have HF : Hid (decide (hd (s.data.toList.drop i) = 46) = false) := by unfold Hid; rw [e0]; simp [h0]
            clear e0 h0
            go_wp2
            go_meet
            exact ⟨by rw [HF.out], rfl⟩
        · have e0 := hd_end s i (by omega)
          have HF : Hid (decide (hd (s.data.toList.drop i) = 46) = false) := by unfold Hid; rw [e0]; simp
          have hdl : decide (i < s.size) = false := decide_eq_false hlt
          clear e0
          go_wp2
          go_meet
          exact ⟨by rw [HF.out], rfl⟩
    case rest =>
      obtain ⟨rfl, rfl⟩ := hcut
      go_upto_if 36 with fail
      go_cut [4, 6, 7] (fun v4 v6 v7 wx => ∃ (j : Nat) (F : ByteArray), v4 = .int .i64 j ∧ v6 = .string F ∧ j ≤ s.size ∧ F.size ≤ 1048576 ∧ Hid (AllD F.data.toList) ∧ Hid (x = readS i F (s.data.toList.drop j)) ∧ wx = wc)
      case first =>
        as_aux_lemma =>
          rcases Bool.eq_false_or_eq_true (decide (hd (s.data.toList.drop i) = 46)) with hB | hB
          · have h46 := of_decide_eq_true hB
            have hlt : i < s.size := by
              by_cases h : i < s.size
              · exact h
              · rw [hd_end s i (by omega)] at h46; cases h46
            have HX2 : Hid (x = if i + cntD (s.data.toList.drop (i + 1)) = 0 then none else (expP ((s.data.toList.drop (i + 1)).drop (cntD (s.data.toList.drop (i + 1))))).map fun e => (i, (s.data.toList.drop (i + 1)).take (cntD (s.data.toList.drop (i + 1))), e)) := by
              unfold Hid; rw [HX.out]; unfold readQ; rw [if_pos h46, drop_tail]
            rw [hB]
            clear hB h46 HX
            go_wp2_with fail
            go_loop [4] (fun v => ∃ k : Nat, i + 1 ≤ k ∧ k ≤ s.size ∧ v = .int .i64 k ∧ Hid (k + cntD (s.data.toList.drop k) = i + 1 + cntD (s.data.toList.drop (i + 1)))) (fun v => s.size - (intOf v).toNat)
            case atStart => exact ⟨i + 1, Nat.le_refl _, by omega, by go_num, rfl⟩
            case round =>
              obtain ⟨k, hik, hk, rfl, HK⟩ := hrel
              have HEX : Hid (k = i + 1 + cntD (s.data.toList.drop (i + 1)) → AllD (s.extract (i + 1) k).data.toList ∧ (s.extract (i + 1) k).size ≤ 1048576 ∧ x = readS i (s.extract (i + 1) k) (s.data.toList.drop k)) := by
                intro hkk
                have e1 : (s.extract (i + 1) k).data.toList = (s.data.toList.drop (i + 1)).take (cntD (s.data.toList.drop (i + 1))) := by
                  rw [Lib.extract_data, show k - (i + 1) = cntD (s.data.toList.drop (i + 1)) by omega]
                have e2 : (s.extract (i + 1) k).size = cntD (s.data.toList.drop (i + 1)) := by
                  rw [← size_list, e1, List.length_take]; have := cntD_le (s.data.toList.drop (i + 1)); omega
                refine ⟨by rw [e1]; exact cntD_take _, by omega, ?_⟩
                rw [HX2.out]
                unfold readS
                rw [e2, e1, List.drop_drop, ← hkk]
              by_cases hltk : k < s.size
              · have HCC : Hid (cntD (s.data.toList.drop k) = if isD s[k].toNat then cntD (s.data.toList.drop (k + 1)) + 1 else 0) := cntD_at s k hltk
                rcases Bool.eq_false_or_eq_true (isD s[k].toNat) with hh | hh
                · have HN : Hid (k + 1 + cntD (s.data.toList.drop (k + 1)) = i + 1 + cntD (s.data.toList.drop (i + 1))) := by
                    have h1 := HK.out
                    rw [HCC.out, if_pos hh] at h1
                    unfold Hid; omega
                  go_wp2_with (go_at_call 18; refine (isDigit_any _ _).mono ?_; rintro e w' ⟨rfl, rfl⟩)
                  go_round
                  case rel => exact ⟨k + 1, by omega, by omega, by go_num, HN.out⟩
                  case measure => simp [intOf]; omega
                · have HN : Hid (k = i + 1 + cntD (s.data.toList.drop (i + 1))) := by
                    have h1 := HK.out
                    rw [HCC.out, if_neg (by simp [hh])] at h1
                    exact h1
                  go_wp2_with (go_at_call 18; refine (isDigit_any _ _).mono ?_; rintro e w' ⟨rfl, rfl⟩)
                  go_meet
                  exact ⟨k, _, rfl, rfl, hk, (HEX.out HN.out).2.1, (HEX.out HN.out).1, (HEX.out HN.out).2.2, rfl⟩
              · have HN : Hid (k = i + 1 + cntD (s.data.toList.drop (i + 1))) := by
                  have h1 := HK.out
                  rw [cntD_end s k (by omega)] at h1
                  exact h1
                go_wp2_with fail
                go_meet
                exact ⟨k, _, rfl, rfl, hk, (HEX.out HN.out).2.1, (HEX.out HN.out).1, (HEX.out HN.out).2.2, rfl⟩
          · have HX2 : Hid (x = readS i ⟨#[]⟩ (s.data.toList.drop i)) := by
              unfold Hid; rw [HX.out]; unfold readQ readS
              rw [if_neg (of_decide_eq_false hB)]
              have e0 : (ByteArray.mk #[]).size = 0 := rfl
              rw [e0, Nat.add_zero]
            rw [hB]
            go_wp2_with fail
            go_meet
            exact ⟨i, _, rfl, rfl, hil, by show 0 ≤ _; omega, (by intro c hc; simp at hc : AllD (ByteArray.mk #[]).data.toList), HX2.out, rfl⟩
      case rest =>
        clear HX
        obtain ⟨j, F, rfl, rfl, hj, hFz, HAF, HX, rfl⟩ := hcut
        by_cases h0 : i + F.size = 0
        · have HN : Hid (x = none) := by unfold Hid; rw [HX.out]; unfold readS; rw [if_pos h0]
          have b0 : ((W.size : Int) + (F.size : Int) == 0) = true := beq_iff_eq.2 (by have := HWZ.out; omega)
          clear h0
          go_wp2_with fail
          refine bodyPost_ret (v := .tuple #[.agg #[.string ⟨#[]⟩, .string ⟨#[]⟩, .int .i64 0, .int .i64 0], .bool false]) (by simp [results, Try.results12, go_sem]; go_simp) rfl ⟨HBAD.out HN.out, ?_⟩
          exact (((HB0.out.setCell (p := ⟨w.heap.size, 0, none⟩) (Nat.le_refl _) _).setCell (p := ⟨w.heap.size, 1, none⟩) (Nat.le_refl _) _).setCell (p := ⟨w.heap.size, 2, none⟩) (Nat.le_refl _) _).setCell (p := ⟨w.heap.size, 3, none⟩) (Nat.le_refl _) _
        · have b0 : ((W.size : Int) + (F.size : Int) == 0) = false := beq_eq_false_iff_ne.2 (by have := HWZ.out; omega)
          have HX2 : Hid (x = (expP (s.data.toList.drop j)).map fun e => (i, F.data.toList, e)) := by unfold Hid; rw [HX.out]; unfold readS; rw [if_neg h0]
          clear h0 HX
          go_upto_region 15 with fail
          go_cut [78] (fun c wx => c = .bool (isE (hd (s.data.toList.drop j))) ∧ wx = wc)
          case first =>
            as_aux_lemma =>
              have HE0 : Hid (∀ n, isE n = (decide (n = 101) || decide (n = 69))) := fun _ => rfl
              by_cases hlt : j < s.size
              · have e0 := hd_at s j hlt
                by_cases h0 : s[j].toNat = 101
                · have b1 : ((s[j].toNat : Int) == 101) = true := by simp [h0]
                  have HF : Hid (isE (hd (s.data.toList.drop j)) = true) := by unfold Hid; rw [e0, HE0.out]; simp [h0]
                  clear e0 h0
                  go_wp2
                  go_meet
                  exact ⟨by rw [HF.out], rfl⟩
                · have b1 : ((s[j].toNat : Int) == 101) = false := by simp; omega
                  by_cases h1 : s[j].toNat = 69
                  · have b2 : ((s[j].toNat : Int) == 69) = true := by simp [h1]
                    have HF : Hid (isE (hd (s.data.toList.drop j)) = true) := by unfold Hid; rw [e0, HE0.out]; simp [h1]
                    clear e0 h0 h1
                    go_wp2
                    go_meet
                    exact ⟨by rw [HF.out], rfl⟩
                  · have b2 : ((s[j].toNat : Int) == 69) = false := by simp; omega
                    have HF : Hid (isE (hd (s.data.toList.drop j)) = false) := by unfold Hid; rw [e0, HE0.out]; simp [h0, h1]
                    clear e0 h0 h1
                    go_wp2
                    go_meet
                    exact ⟨by rw [HF.out], rfl⟩
              · have e0 := hd_end s j (by omega)
                have HF : Hid (isE (hd (s.data.toList.drop j)) = false) := by unfold Hid; rw [e0, HE0.out]; simp
                have hdl : decide (j < s.size) = false := decide_eq_false hlt
                clear e0
                go_wp2
                go_meet
                exact ⟨by rw [HF.out], rfl⟩
          case rest =>
            obtain ⟨rfl, rfl⟩ := hcut
            go_upto_if 78 with fail
            go_cut [4, 8, 9, 10] (fun v4 v8 v9 v10 wx => ∃ (j2 : Nat) (ex : Int), v4 = .int .i64 j2 ∧ v8 = .int .i64 ex ∧ j2 ≤ s.size ∧ -10995116277769 ≤ ex ∧ ex ≤ 10995116277769 ∧ Hid (expP (s.data.toList.drop j) = if j2 = s.size then some ex else none) ∧ wx = wc)
            case first =>
              as_aux_lemma =>
                rcases Bool.eq_false_or_eq_true (isE (hd (s.data.toList.drop j))) with hB | hB
                · have hlt : j < s.size := by
                    by_cases h : j < s.size
                    · exact h
                    · rw [hd_end s j (by omega)] at hB; cases hB
                  have HBE : Hid (isE (hd (s.data.toList.drop j)) = true) := hB
                  have HS0 : Hid (∀ n, isS n = (decide (n = 45) || decide (n = 43))) := fun _ => rfl
                  rw [hB]
                  clear hB
                  go_upto_region 17 with fail
                  go_cut [9] (fun c wx => c = .bool (decide (hd (s.data.toList.drop (j + 1)) = 45)) ∧ wx = wc)
                  case first =>
                    as_aux_lemma =>
                      by_cases hlt1 : j + 1 < s.size
                      · have e0 := hd_at s (j + 1) hlt1
                        by_cases h0 : s[j + 1].toNat = 45
                        · have b1 : ((s[j + 1].toNat : Int) == 45) = true := by simp [h0]
                          have HF : Hid (decide (hd (s.data.toList.drop (j + 1)) = 45) = true) := by unfold Hid; rw [e0]; simp [h0]
                          clear e0 h0
                          go_wp2
                          go_meet
                          exact ⟨by rw [HF.out], rfl⟩
                        · have b1 : ((s[j + 1].toNat : Int) == 45) = false := by simp; omega
                          have HF : Hid (decide (hd (s.data.toList.drop (j + 1)) = 45) = false) := by unfold Hid; rw [e0]; simp [h0]
                          clear e0 h0
                          go_wp2
                          go_meet
                          exact ⟨by rw [HF.out], rfl⟩
                      · have e0 := hd_end s (j + 1) (by omega)
                        have HF : Hid (decide (hd (s.data.toList.drop (j + 1)) = 45) = false) := by unfold Hid; rw [e0]; simp
                        have hdl : decide ((j : Int) + 1 < (s.size : Int)) = false := decide_eq_false (by omega)
                        clear e0
                        go_wp2
                        go_meet
                        exact ⟨by rw [HF.out], rfl⟩
                  case rest =>
                    obtain ⟨rfl, rfl⟩ := hcut
                    obtain ⟨nb, hnb⟩ : ∃ nb, decide (hd (s.data.toList.drop (j + 1)) = 45) = nb := ⟨_, rfl⟩
                    have HNB : Hid (decide (hd (s.data.toList.drop (j + 1)) = 45) = nb) := hnb
                    rw [hnb]
                    clear hnb
                    go_upto_region 18 with fail
                    go_cut [106] (fun c wx => c = .bool (isS (hd (s.data.toList.drop (j + 1)))) ∧ wx = wc)
                    case first =>
                      as_aux_lemma =>
                        by_cases hlt1 : j + 1 < s.size
                        · have e0 := hd_at s (j + 1) hlt1
                          by_cases h0 : s[j + 1].toNat = 45
                          · have b1 : ((s[j + 1].toNat : Int) == 45) = true := by simp [h0]
                            have HF : Hid (isS (hd (s.data.toList.drop (j + 1))) = true) := by unfold Hid; rw [e0, HS0.out]; simp [h0]
                            clear e0 h0
                            go_wp2
                            go_meet
                            exact ⟨by rw [HF.out], rfl⟩
                          · have b1 : ((s[j + 1].toNat : Int) == 45) = false := by simp; omega
                            by_cases h1 : s[j + 1].toNat = 43
                            · have b2 : ((s[j + 1].toNat : Int) == 43) = true := by simp [h1]
                              have HF : Hid (isS (hd (s.data.toList.drop (j + 1))) = true) := by unfold Hid; rw [e0, HS0.out]; simp [h1]
                              clear e0 h0 h1
                              go_wp2
                              go_meet
                              exact ⟨by rw [HF.out], rfl⟩
                            · have b2 : ((s[j + 1].toNat : Int) == 43) = false := by simp; omega
                              have HF : Hid (isS (hd (s.data.toList.drop (j + 1))) = false) := by unfold Hid; rw [e0, HS0.out]; simp [h0, h1]
                              clear e0 h0 h1
                              go_wp2
                              go_meet
                              exact ⟨by rw [HF.out], rfl⟩
                        · have e0 := hd_end s (j + 1) (by omega)
                          have HF : Hid (isS (hd (s.data.toList.drop (j + 1))) = false) := by unfold Hid; rw [e0, HS0.out]; simp
                          have hdl : decide ((j : Int) + 1 < (s.size : Int)) = false := decide_eq_false (by omega)
                          clear e0
                          go_wp2
                          go_meet
                          exact ⟨by rw [HF.out], rfl⟩
                    case rest =>
                      obtain ⟨rfl, rfl⟩ := hcut
                      go_upto_if 106 with fail
                      go_cut [4] (fun v wx => ∃ k2 : Nat, v = .int .i64 k2 ∧ k2 ≤ s.size ∧ Hid (s.data.toList.drop k2 = if isS (hd (s.data.toList.drop (j + 1))) then s.data.toList.drop (j + 1 + 1) else s.data.toList.drop (j + 1)) ∧ wx = wc)
                      case first =>
                        as_aux_lemma =>
                          rcases Bool.eq_false_or_eq_true (isS (hd (s.data.toList.drop (j + 1)))) with hS | hS
                          · have hlt1 : j + 1 < s.size := by
                              by_cases h : j + 1 < s.size
                              · exact h
                              · rw [hd_end s (j + 1) (by omega)] at hS; cases hS
                            have HSS : Hid (isS (hd (s.data.toList.drop (j + 1))) = true) := hS
                            rw [hS]
                            clear hS
                            go_wp2
                            go_meet
                            exact ⟨j + 1 + 1, by go_num, by omega, by unfold Hid; rw [HSS.out]; rfl, rfl⟩
                          · have HSS : Hid (isS (hd (s.data.toList.drop (j + 1))) = false) := hS
                            rw [hS]
                            clear hS
                            go_wp2
                            go_meet
                            exact ⟨j + 1, by go_num, by omega, by unfold Hid; rw [HSS.out]; rfl, rfl⟩
                      case rest =>
                        obtain ⟨k2, rfl, hk2, HK2, rfl⟩ := hcut
                        have HEX : Hid (expP (s.data.toList.drop j) = if cntD (s.data.toList.drop k2) = 0 ∨ cntD (s.data.toList.drop k2) ≠ (s.data.toList.drop k2).length then none else some (if hd (s.data.toList.drop (j + 1)) = 45 then - capL 0 (s.data.toList.drop k2) else capL 0 (s.data.toList.drop k2))) := expP_at s j k2 HBE.out HK2.out
                        clear HK2 HBE HS0
                        go_wp2_with fail
                        go_loop [4, 8] (fun v v8 => ∃ (k : Nat) (ex : Int), k2 ≤ k ∧ k ≤ s.size ∧ 0 ≤ ex ∧ ex ≤ 10995116277769 ∧ v = .int .i64 k ∧ v8 = .int .i64 ex ∧ Hid (k + cntD (s.data.toList.drop k) = k2 + cntD (s.data.toList.drop k2)) ∧ Hid (capL ex ((s.data.toList.drop k).take (cntD (s.data.toList.drop k))) = capL 0 ((s.data.toList.drop k2).take (cntD (s.data.toList.drop k2))))) (fun v _ => s.size - (intOf v).toNat)
                        case atStart => exact ⟨k2, 0, Nat.le_refl _, hk2, by omega, by omega, rfl, rfl, rfl, rfl⟩
                        case round =>
                          obtain ⟨k, ex, hkk2, hk, hex0, hex1, rfl, rfl, HK, HC⟩ := hrel
                          by_cases hltk : k < s.size
                          · have HCC : Hid (cntD (s.data.toList.drop k) = if isD s[k].toNat then cntD (s.data.toList.drop (k + 1)) + 1 else 0) := cntD_at s k hltk
                            rcases Bool.eq_false_or_eq_true (isD s[k].toNat) with hh | hh
                            · have HN : Hid (k + 1 + cntD (s.data.toList.drop (k + 1)) = k2 + cntD (s.data.toList.drop k2)) := by
                                have h1 := HK.out
                                rw [HCC.out, if_pos hh] at h1
                                unfold Hid; omega
                              have HN2 : Hid (capL (if ex < 1099511627776 then ex * 10 + ((s[k].toNat : Int) - 48) else ex) ((s.data.toList.drop (k + 1)).take (cntD (s.data.toList.drop (k + 1)))) = capL 0 ((s.data.toList.drop k2).take (cntD (s.data.toList.drop k2)))) := by
                                have h1 := HC.out
                                rw [HCC.out, if_pos hh, drop_byte s k hltk, List.take_succ_cons] at h1
                                exact h1
                              have h4857 : (48 : Int) ≤ (s[k].toNat : Int) ∧ (s[k].toNat : Int) ≤ 57 := by
                                have h1 := hh
                                simp [isD] at h1; omega
                              obtain ⟨h48, h57⟩ := h4857
                              by_cases hcap : ex < 1099511627776
                              · have HN3 : Hid (capL (ex * 10 + ((s[k].toNat : Int) - 48)) ((s.data.toList.drop (k + 1)).take (cntD (s.data.toList.drop (k + 1)))) = capL 0 ((s.data.toList.drop k2).take (cntD (s.data.toList.drop k2)))) := by have := HN2.out; rwa [if_pos hcap] at this
                                clear HN2
                                go_wp2_with (go_at_call 18; refine (isDigit_any _ _).mono ?_; rintro e w' ⟨rfl, rfl⟩)
                                go_round
                                case rel => exact ⟨k + 1, ex * 10 + ((s[k].toNat : Int) - 48), by omega, by omega, by omega, by omega, by go_num, rfl, HN.out, HN3.out⟩
                                case measure => simp [intOf]; omega
                              · have HN3 : Hid (capL ex ((s.data.toList.drop (k + 1)).take (cntD (s.data.toList.drop (k + 1)))) = capL 0 ((s.data.toList.drop k2).take (cntD (s.data.toList.drop k2)))) := by have := HN2.out; rwa [if_neg hcap] at this
                                clear HN2
                                go_wp2_with (go_at_call 18; refine (isDigit_any _ _).mono ?_; rintro e w' ⟨rfl, rfl⟩)
                                go_round
                                case rel => exact ⟨k + 1, ex, by omega, by omega, hex0, hex1, by go_num, rfl, HN.out, HN3.out⟩
                                case measure => simp [intOf]; omega
                            · have HKE : Hid (k = k2 + cntD (s.data.toList.drop k2)) := by
                                have h1 := HK.out
                                rw [HCC.out, if_neg (by simp [hh])] at h1
                                exact h1
                              have HCE : Hid (ex = capL 0 ((s.data.toList.drop k2).take (cntD (s.data.toList.drop k2)))) := by
                                have h1 := HC.out
                                rw [HCC.out, if_neg (by simp [hh])] at h1
                                exact h1
                              by_cases hkk : k = k2
                              · have HN : Hid (x = none) := by
                                  unfold Hid; rw [HX2.out, HEX.out, if_pos (.inl (by have := HKE.out; omega))]; rfl
                                have b0 : ((k : Int) == (k2 : Int)) = true := beq_iff_eq.2 (by omega)
                                clear hkk
                                go_wp2_with (go_at_call 18; refine (isDigit_any _ _).mono ?_; rintro e w' ⟨rfl, rfl⟩)
                                refine bodyPost_ret (v := .tuple #[.agg #[.string ⟨#[]⟩, .string ⟨#[]⟩, .int .i64 0, .int .i64 0], .bool false]) (by simp [results, Try.results12, go_sem]; go_simp) rfl ⟨HBAD.out HN.out, ?_⟩
                                exact (((HB0.out.setCell (p := ⟨w.heap.size, 0, none⟩) (Nat.le_refl _) _).setCell (p := ⟨w.heap.size, 1, none⟩) (Nat.le_refl _) _).setCell (p := ⟨w.heap.size, 2, none⟩) (Nat.le_refl _) _).setCell (p := ⟨w.heap.size, 3, none⟩) (Nat.le_refl _) _
                              · have b0 : ((k : Int) == (k2 : Int)) = false := beq_eq_false_iff_ne.2 (by omega)
                                have HFIN : Hid (expP (s.data.toList.drop j) = if k = s.size then some (if hd (s.data.toList.drop (j + 1)) = 45 then - ex else ex) else none) := by
                                  unfold Hid
                                  rw [HEX.out]
                                  have h1 := HKE.out
                                  have h2 := cntD_le (s.data.toList.drop k2)
                                  have h3 : (s.data.toList.drop k2).length = s.size - k2 := by rw [List.length_drop, size_list]
                                  by_cases hks : k = s.size
                                  · have h4 : cntD (s.data.toList.drop k2) = (s.data.toList.drop k2).length := by omega
                                    have h5 := HCE.out
                                    rw [h4, List.take_length] at h5
                                    rw [if_pos hks, if_neg (by omega), ← h5]
                                  · rw [if_neg hks, if_pos (by omega)]
                                cases nb
                                · have HF2 : Hid (expP (s.data.toList.drop j) = if k = s.size then some ex else none) := by have := HFIN.out; rwa [if_neg (of_decide_eq_false HNB.out)] at this
                                  go_wp2_with (go_at_call 18; refine (isDigit_any _ _).mono ?_; rintro e w' ⟨rfl, rfl⟩)
                                  go_meet
                                  exact ⟨k, ex, rfl, rfl, hk, by omega, by omega, HF2.out, rfl⟩
                                · have HF2 : Hid (expP (s.data.toList.drop j) = if k = s.size then some (-ex) else none) := by have := HFIN.out; rwa [if_pos (of_decide_eq_true HNB.out)] at this
                                  go_wp2_with (go_at_call 18; refine (isDigit_any _ _).mono ?_; rintro e w' ⟨rfl, rfl⟩)
                                  go_meet
                                  exact ⟨k, -ex, rfl, rfl, hk, by omega, by omega, HF2.out, rfl⟩
                          · have HKE : Hid (k = k2 + cntD (s.data.toList.drop k2)) := by
                              have h1 := HK.out
                              rw [cntD_end s k (by omega)] at h1
                              exact h1
                            have HCE : Hid (ex = capL 0 ((s.data.toList.drop k2).take (cntD (s.data.toList.drop k2)))) := by
                              have h1 := HC.out
                              rw [cntD_end s k (by omega)] at h1
                              exact h1
                            by_cases hkk : k = k2
                            · have HN : Hid (x = none) := by
                                unfold Hid; rw [HX2.out, HEX.out, if_pos (.inl (by have := HKE.out; omega))]; rfl
                              have b0 : ((k : Int) == (k2 : Int)) = true := beq_iff_eq.2 (by omega)
                              clear hkk
                              go_wp2_with fail
                              refine bodyPost_ret (v := .tuple #[.agg #[.string ⟨#[]⟩, .string ⟨#[]⟩, .int .i64 0, .int .i64 0], .bool false]) (by simp [results, Try.results12, go_sem]; go_simp) rfl ⟨HBAD.out HN.out, ?_⟩
                              exact (((HB0.out.setCell (p := ⟨w.heap.size, 0, none⟩) (Nat.le_refl _) _).setCell (p := ⟨w.heap.size, 1, none⟩) (Nat.le_refl _) _).setCell (p := ⟨w.heap.size, 2, none⟩) (Nat.le_refl _) _).setCell (p := ⟨w.heap.size, 3, none⟩) (Nat.le_refl _) _
                            · have b0 : ((k : Int) == (k2 : Int)) = false := beq_eq_false_iff_ne.2 (by omega)
                              have HFIN : Hid (expP (s.data.toList.drop j) = if k = s.size then some (if hd (s.data.toList.drop (j + 1)) = 45 then - ex else ex) else none) := by
                                unfold Hid
                                rw [HEX.out]
                                have h1 := HKE.out
                                have h2 := cntD_le (s.data.toList.drop k2)
                                have h3 : (s.data.toList.drop k2).length = s.size - k2 := by rw [List.length_drop, size_list]
                                by_cases hks : k = s.size
                                · have h4 : cntD (s.data.toList.drop k2) = (s.data.toList.drop k2).length := by omega
                                  have h5 := HCE.out
                                  rw [h4, List.take_length] at h5
                                  rw [if_pos hks, if_neg (by omega), ← h5]
                                · rw [if_neg hks, if_pos (by omega)]
                              cases nb
                              · have HF2 : Hid (expP (s.data.toList.drop j) = if k = s.size then some ex else none) := by have := HFIN.out; rwa [if_neg (of_decide_eq_false HNB.out)] at this
                                go_wp2_with fail
                                go_meet
                                exact ⟨k, ex, rfl, rfl, hk, by omega, by omega, HF2.out, rfl⟩
                              · have HF2 : Hid (expP (s.data.toList.drop j) = if k = s.size then some (-ex) else none) := by have := HFIN.out; rwa [if_pos (of_decide_eq_true HNB.out)] at this
                                go_wp2_with fail
                                go_meet
                                exact ⟨k, -ex, rfl, rfl, hk, by omega, by omega, HF2.out, rfl⟩
                · have HF2 := expP_end s j hj hB
                  have HF3 : Hid (expP (s.data.toList.drop j) = if j = s.size then some 0 else none) := HF2
                  rw [hB]
                  clear hB HF2
                  go_wp2_with fail
                  go_meet
                  exact ⟨j, 0, rfl, rfl, hj, by omega, by omega, HF3.out, rfl⟩
            case rest =>
              obtain ⟨j2, ex, rfl, rfl, hj2, hx1, hx2, HEX, rfl⟩ := hcut
              by_cases hjs : j2 = s.size
              · have b1 : ((j2 : Int) != (s.size : Int)) = false := by rw [bne_eq_false_iff_eq]; omega
                have HN : Hid (x = some (i, F.data.toList, ex)) := by unfold Hid; rw [HX2.out, HEX.out, if_pos hjs]; rfl
                clear hjs
                obtain ⟨wo, rfl⟩ : ∃ wo, wo = wc := ⟨_, rfl⟩
                go_wp2_with fail
                have hn : W.size + F.size ≤ 4194304 := by omega
                have HAW : Hid (AllD W.data.toList) := by unfold Hid; rw [HW.out]; exact HAI.out
                obtain ⟨D, hD⟩ : ∃ D, D = W.data.toList ++ F.data.toList := ⟨_, rfl⟩
                have HD : Hid (D = W.data.toList ++ F.data.toList) := hD
                have hDl : D.length = W.size + F.size := by rw [hD, List.length_append, size_list, size_list]
                have HDL : Hid (D.length = W.size + F.size) := hDl
                have HOK : Hid (∀ k : Nat, k = lead0 D → AnsA s.data.toList x (.returned (.tuple #[.agg #[.string W, .string F, .int .i64 ((W.size : Int) + ex), .int .i64 (k : Int)], .bool true]))) := by
                  intro k hk
                  exact ⟨_, _, _, _, _, rfl, .inr ⟨i, _, ex, HN.out, HW.out, rfl, by rw [HWZ.out], by rw [hk, hD], rfl⟩⟩
                obtain ⟨P, hP⟩ : ∃ P, P = (W.size : Int) + ex := ⟨_, rfl⟩
                have HP : Hid (P = (W.size : Int) + ex) := hP
                rw [← hP]
                obtain ⟨B, hB⟩ : ∃ B, B = wo.heap.size := ⟨_, rfl⟩
                have HB : Hid (B = wo.heap.size) := hB
                have hBw : w.heap.size < B := by rw [hB]; exact hN
                have HR : Hid (∀ wz : World, Below B wo wz → (wz.cell? ⟨w.heap.size, 0, none⟩ = some (.string ⟨#[]⟩) ∧ wz.cell? ⟨w.heap.size, 1, none⟩ = some (.string ⟨#[]⟩) ∧ wz.cell? ⟨w.heap.size, 2, none⟩ = some (.int .i64 0) ∧ wz.cell? ⟨w.heap.size, 3, none⟩ = some (.int .i64 0)) ∧ (wz.frozen? ⟨w.heap.size, 0, none⟩ = false ∧ wz.frozen? ⟨w.heap.size, 1, none⟩ = false ∧ wz.frozen? ⟨w.heap.size, 2, none⟩ = false ∧ wz.frozen? ⟨w.heap.size, 3, none⟩ = false)) := by
                  intro wz hz
                  refine ⟨⟨?_, ?_, ?_, ?_⟩, ⟨?_, ?_, ?_, ?_⟩⟩
                  · exact (hz.cell (p := ⟨w.heap.size, 0, none⟩) hBw).trans c0
                  · exact (hz.cell (p := ⟨w.heap.size, 1, none⟩) hBw).trans c1
                  · exact (hz.cell (p := ⟨w.heap.size, 2, none⟩) hBw).trans c2
                  · exact (hz.cell (p := ⟨w.heap.size, 3, none⟩) hBw).trans c3
                  · exact (hz.frozen (p := ⟨w.heap.size, 0, none⟩) hBw).trans f0
                  · exact (hz.frozen (p := ⟨w.heap.size, 1, none⟩) hBw).trans f1
                  · exact (hz.frozen (p := ⟨w.heap.size, 2, none⟩) hBw).trans f2
                  · exact (hz.frozen (p := ⟨w.heap.size, 3, none⟩) hBw).trans f3
                rw [← hB]
                go_loopg [] D.length (fun g wr => ∃ k : Nat, k ≤ D.length ∧ g = D.length - k ∧ Hid (k + lead0 (D.drop k) = lead0 D) ∧ wr.cell? ⟨B, 0, none⟩ = some (.string W) ∧ wr.cell? ⟨B, 1, none⟩ = some (.string F) ∧ wr.cell? ⟨B, 2, none⟩ = some (.int .i64 P) ∧ wr.cell? ⟨B, 3, none⟩ = some (.int .i64 k) ∧ wr.frozen? ⟨B, 3, none⟩ = false ∧ Below B wo wr)
                case atStart =>
                  refine ⟨0, Nat.zero_le _, rfl, by unfold Hid; simp, ?_, ?_, ?_, ?_, ?_, ?_⟩
                  · rw [hB]; simp [go_sem]
                  · rw [hB]; simp [go_sem]
                  · rw [hB]; simp [go_sem]
                  · rw [hB]; simp [go_sem]
                  · rw [hB]; simp [go_sem]
                  · rw [hB]; exact (Below.refl _ _).alloc (Nat.le_refl _) _
                case round =>
                  obtain ⟨k, hk, hg, HK, x0, x1, x2, x3, xf, hbr⟩ := hrel
                  have hk2 : k ≤ 4194304 := by omega
                  clear hD hP hB c0 c1 c2 c3 f0 f1 f2 f3
                  have hBr : B < wr.heap.size := cell_lt x3
                  by_cases hlt : k < D.length
                  · have hlt2 : (k : Int) < (W.size : Int) + (F.size : Int) := by omega
                    clear hDl
                    go_upto_region 32 with fail
                    go_cut [162] (fun c wx => c = .bool (dgt D k == 0) ∧ Below wr.heap.size wr wx)
                    case first =>
                      as_aux_lemma =>
                        go_region_with (first | (go_at_call 19; refine (n_below W F _ _ _ hn).mono ?_; rintro e w1 ⟨rfl, hb1⟩; have n0 := (hb1.cell (p := ⟨B, 0, none⟩) hBr).trans x0; have n1 := (hb1.cell (p := ⟨B, 1, none⟩) hBr).trans x1; have n2 := (hb1.cell (p := ⟨B, 2, none⟩) hBr).trans x2; have n3 := (hb1.cell (p := ⟨B, 3, none⟩) hBr).trans x3) | (go_at_call 20; refine (digit_any W F _ _ _ _ hn HAW.out HAF.out).mono ?_; rintro e w2 ⟨rfl, hb2⟩; rw [← HD.out]))
                        all_goals go_wp2
                        all_goals go_meet
                        all_goals exact ⟨rfl, (Below.refl _ wr).drew.trans (hb1.trans (hb2.mono hb1.size))⟩
                    case rest =>
                      obtain ⟨rfl, hbc⟩ := hcut
                      by_cases h48 : dgt D k = 0
                      · have HNX : Hid (k + 1 + lead0 (D.drop (k + 1)) = lead0 D) := by
                          have h1 := HK.out
                          rw [lead0_dgt D k hlt, if_pos h48] at h1
                          unfold Hid; omega
                        have bd : (dgt D k == 0) = true := beq_iff_eq.2 h48
                        rw [bd]
                        clear h48
                        have hb9 : Below B wo wc := hbr.trans (hbc.mono (by omega))
                        have z0 := (hbc.cell (p := ⟨B, 0, none⟩) hBr).trans x0
                        have z1 := (hbc.cell (p := ⟨B, 1, none⟩) hBr).trans x1
                        have z2 := (hbc.cell (p := ⟨B, 2, none⟩) hBr).trans x2
                        have z3 := (hbc.cell (p := ⟨B, 3, none⟩) hBr).trans x3
                        have zf := (hbc.frozen (p := ⟨B, 3, none⟩) hBr).trans xf
                        have HB9 : Hid (Below B wo wc) := hb9
                        clear x0 x1 x2 x3 xf hbr hbc hb9
                        go_wp2_with fail
                        go_roundg (D.length - (k + 1))
                        case measure => omega
                        case rel => exact ⟨k + 1, by omega, rfl, HNX.out, by simp [go_sem, z0], by simp [go_sem, z1], by simp [go_sem, z2], by simp [go_sem, z3], by simp [go_sem, zf], HB9.out.setCell (p := ⟨B, 3, none⟩) (Nat.le_refl _) _⟩
                      · have HKE : Hid (k = lead0 D) := by
                          have h1 := HK.out
                          rw [lead0_dgt D k hlt, if_neg h48] at h1
                          exact h1
                        have bd : (dgt D k == 0) = false := beq_eq_false_iff_ne.2 h48
                        rw [bd]
                        clear h48
                        have hb9 : Below B wo wc := hbr.trans (hbc.mono (by omega))
                        obtain ⟨⟨y0, y1, y2, y3⟩, ⟨g0, g1, g2, g3⟩⟩ := HR.out _ hb9
                        have z0 := (hbc.cell (p := ⟨B, 0, none⟩) hBr).trans x0
                        have z1 := (hbc.cell (p := ⟨B, 1, none⟩) hBr).trans x1
                        have z2 := (hbc.cell (p := ⟨B, 2, none⟩) hBr).trans x2
                        have z3 := (hbc.cell (p := ⟨B, 3, none⟩) hBr).trans x3
                        have HB9 : Hid (Below w.heap.size w wc) := HB0.out.trans (hb9.mono (by omega))
                        clear x0 x1 x2 x3 xf hbr hbc hb9
                        go_wp2_with fail
                        refine bodyPost_ret (v := .tuple #[.agg #[.string W, .string F, .int .i64 P, .int .i64 k], .bool true]) (by simp [results, Try.results12, go_sem]; go_simp) rfl ⟨by rw [HP.out]; exact HOK.out k HKE.out, ?_⟩
                        exact (((HB9.out.setCell (p := ⟨w.heap.size, 0, none⟩) (Nat.le_refl _) _).setCell (p := ⟨w.heap.size, 1, none⟩) (Nat.le_refl _) _).setCell (p := ⟨w.heap.size, 2, none⟩) (Nat.le_refl _) _).setCell (p := ⟨w.heap.size, 3, none⟩) (Nat.le_refl _) _
                  · have HKE : Hid (k = lead0 D) := by
                      have h1 := HK.out
                      rw [List.drop_of_length_le (by omega)] at h1
                      exact h1
                    have hdl : decide ((k : Int) < (W.size : Int) + (F.size : Int)) = false := decide_eq_false (by omega)
                    clear hlt hDl
                    go_upto_region 32 with fail
                    go_cut [162] (fun c wx => c = .bool false ∧ Below wr.heap.size wr wx)
                    case first =>
                      as_aux_lemma =>
                        first | go_region_with (first | (go_at_call 19; refine (n_below W F _ _ _ hn).mono ?_; rintro e w1 ⟨rfl, hb1⟩; have n0 := (hb1.cell (p := ⟨B, 0, none⟩) hBr).trans x0; have n1 := (hb1.cell (p := ⟨B, 1, none⟩) hBr).trans x1; have n2 := (hb1.cell (p := ⟨B, 2, none⟩) hBr).trans x2; have n3 := (hb1.cell (p := ⟨B, 3, none⟩) hBr).trans x3)) | fail
                        all_goals go_wp2
                        all_goals go_meet
                        all_goals exact ⟨rfl, (Below.refl _ wr).drew.trans hb1⟩
                    case rest =>
                      obtain ⟨rfl, hbc⟩ := hcut
                      have hb9 : Below B wo wc := hbr.trans (hbc.mono (by omega))
                      obtain ⟨⟨y0, y1, y2, y3⟩, ⟨g0, g1, g2, g3⟩⟩ := HR.out _ hb9
                      have z0 := (hbc.cell (p := ⟨B, 0, none⟩) hBr).trans x0
                      have z1 := (hbc.cell (p := ⟨B, 1, none⟩) hBr).trans x1
                      have z2 := (hbc.cell (p := ⟨B, 2, none⟩) hBr).trans x2
                      have z3 := (hbc.cell (p := ⟨B, 3, none⟩) hBr).trans x3
                      have HB9 : Hid (Below w.heap.size w wc) := HB0.out.trans (hb9.mono (by omega))
                      clear x0 x1 x2 x3 xf hbr hbc hb9
                      go_wp2_with fail
                      refine bodyPost_ret (v := .tuple #[.agg #[.string W, .string F, .int .i64 P, .int .i64 k], .bool true]) (by simp [results, Try.results12, go_sem]; go_simp) rfl ⟨by rw [HP.out]; exact HOK.out k HKE.out, ?_⟩
                      exact (((HB9.out.setCell (p := ⟨w.heap.size, 0, none⟩) (Nat.le_refl _) _).setCell (p := ⟨w.heap.size, 1, none⟩) (Nat.le_refl _) _).setCell (p := ⟨w.heap.size, 2, none⟩) (Nat.le_refl _) _).setCell (p := ⟨w.heap.size, 3, none⟩) (Nat.le_refl _) _
              · have b1 : ((j2 : Int) != (s.size : Int)) = true := by rw [bne_iff_ne]; omega
                have HN : Hid (x = none) := by unfold Hid; rw [HX2.out, HEX.out, if_neg hjs]; rfl
                clear hjs
                go_wp2_with fail
                refine bodyPost_ret (v := .tuple #[.agg #[.string ⟨#[]⟩, .string ⟨#[]⟩, .int .i64 0, .int .i64 0], .bool false]) (by simp [results, Try.results12, go_sem]; go_simp) rfl ⟨HBAD.out HN.out, ?_⟩
                exact (((HB0.out.setCell (p := ⟨w.heap.size, 0, none⟩) (Nat.le_refl _) _).setCell (p := ⟨w.heap.size, 1, none⟩) (Nat.le_refl _) _).setCell (p := ⟨w.heap.size, 2, none⟩) (Nat.le_refl _) _).setCell (p := ⟨w.heap.size, 3, none⟩) (Nat.le_refl _) _
end Go.Proofs.Qxb6604309a
