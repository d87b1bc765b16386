import Derived.Test.Qxb6604309aFigW
namespace Go.Proofs.Qxb6604309a
open Go.RowKit

/-- What the two readers answer, told by the plain functions' option. -/
def Ans (l : List UInt8) (x : Option (Nat × List UInt8 × Int)) (W F : ByteArray) (P Q : Int) (ok : Bool) : Prop :=
  (x = none ∧ W = ⟨#[]⟩ ∧ F = ⟨#[]⟩ ∧ P = 0 ∧ Q = 0 ∧ ok = false) ∨
  (∃ i f e, x = some (i, f, e) ∧ W.data.toList = l.take i ∧ F.data.toList = f ∧ P = (i : Int) + e ∧ Q = ((lead0 (W.data.toList ++ F.data.toList) : Nat) : Int) ∧ ok = true)
def Ans5 (l : List UInt8) (x : Option (Nat × List UInt8 × Int)) (e : Ending) : Prop :=
  ∃ (W F : ByteArray) (P Q : Int) (ok : Bool), e = .returned (.tuple #[.string W, .string F, .int .i64 P, .int .i64 Q, .bool ok]) ∧ Ans l x W F P Q ok

theorem idx_at (p : Nat → Bool) (s : ByteArray) (k : Nat) (h : k < s.size) : idx p (s.data.toList.drop k) = if p s[k].toNat then 0 else idx p (s.data.toList.drop (k + 1)) + 1 := by rw [drop_byte s k h]; rfl
theorem idx_end (p : Nat → Bool) (s : ByteArray) (k : Nat) (h : s.size ≤ k) : idx p (s.data.toList.drop k) = 0 := by rw [List.drop_of_length_le (by rw [size_list]; exact h)]; rfl

theorem capM_bd {t : List UInt8} (h : AllD t) : 0 ≤ capM t ∧ capM t ≤ 99999999999999 := by
  have e14 : (10 : Int) ^ 14 = 100000000000000 := rfl
  have key : ∀ (u : List UInt8) (n : Nat), AllD u → n ≤ 14 → 0 ≤ V u 0 n ∧ V u 0 n ≤ 99999999999999 := by
    intro u n hu hn
    have h1 := (V_bd hu 0 n).1
    have h2 := V_lt hu 0 hn
    omega
  have hd : AllD (t.drop (lead0 t)) := fun b hb => h b (List.mem_of_mem_drop hb)
  unfold capM capT
  generalize t.drop (lead0 t) = u at hd
  split
  · exact key u _ hd (by omega)
  · split
    · exact key _ 13 (fun b hb => hd b (List.mem_of_mem_take hb)) (by omega)
    · exact key _ 14 (fun b hb => hd b (List.mem_of_mem_take hb)) (by omega)

set_option maxRecDepth 100000 in
set_option maxHeartbeats 4000000 in
theorem model_any (s : ByteArray) (w : World) (hs : s.size ≤ 2097152) :
    Calls Try.prog 7 #[.string s] w fun e w' => Ans5 s.data.toList (modelP s.data.toList) e ∧ w' = w := by
  obtain ⟨x, hx⟩ : ∃ x, x = modelP s.data.toList := ⟨_, rfl⟩
  have HX : Hid (x = modelP s.data.toList) := hx
  rw [← hx]
  clear hx
  have HBAD : Hid (x = none → Ans5 s.data.toList x (.returned (.tuple #[.string ⟨#[]⟩, .string ⟨#[]⟩, .int .i64 0, .int .i64 0, .bool false]))) :=
    fun h => ⟨_, _, _, _, _, rfl, .inl ⟨h, rfl, rfl, rfl, rfl, rfl⟩⟩
  go_enter Try.func7, Try.ntmps7
  go_upto_block 0 with fail
  go_cut [7, 8] (fun v7 v8 wx => v7 = .int .i64 ((idx isE s.data.toList : Nat) : Int) ∧ wx = w)
  case first =>
    obtain ⟨res, hres⟩ : ∃ res, res = idx isE s.data.toList := ⟨_, rfl⟩
    have HRES : Hid (res = idx isE s.data.toList) := hres
    have HE0 : Hid (∀ n, isE n = (decide (n = 101) || decide (n = 69))) := fun _ => rfl
    clear hres
    go_wp2_with fail
    go_loop [7, 8] (fun v7 v => ∃ k : Nat, k ≤ s.size ∧ v = .int .i64 k ∧ v7 = .int .i64 (s.size : Int) ∧ Hid (k + idx isE (s.data.toList.drop k) = res)) (fun _ v => s.size - (intOf v).toNat)
    case atStart => exact ⟨0, Nat.zero_le _, rfl, rfl, by unfold Hid; rw [HRES.out]; simp⟩
    case round =>
      obtain ⟨j, hj, rfl, rfl, HJ⟩ := hrel
      by_cases hltj : j < s.size
      · by_cases h1 : s[j].toNat = 101
        · have b1 : ((s[j].toNat : Int) == 101) = true := by simp [h1]
          have HN : Hid (j = res) := by
            have h2 := HJ.out
            rw [idx_at isE s j hltj, if_pos (by rw [HE0.out]; simp [h1])] at h2
            unfold Hid; omega
          clear h1
          go_wp2
          go_meet
          exact ⟨by rw [← HRES.out, HN.out], rfl⟩
        · have b1 : ((s[j].toNat : Int) == 101) = false := by simp; omega
          by_cases h2 : s[j].toNat = 69
          · have b2 : ((s[j].toNat : Int) == 69) = true := by simp [h2]
            have HN : Hid (j = res) := by
              have h3 := HJ.out
              rw [idx_at isE s j hltj, if_pos (by rw [HE0.out]; simp [h2])] at h3
              unfold Hid; omega
            clear h1 h2
            go_wp2
            go_meet
            exact ⟨by rw [← HRES.out, HN.out], rfl⟩
          · have b2 : ((s[j].toNat : Int) == 69) = false := by simp; omega
            have HN : Hid (j + 1 + idx isE (s.data.toList.drop (j + 1)) = res) := by
              have h3 := HJ.out
              rw [idx_at isE s j hltj, if_neg (by rw [HE0.out]; simp [h1, h2])] at h3
              unfold Hid; omega
            clear h1 h2
            go_wp2
            go_round
            case rel => exact ⟨j + 1, by omega, by go_num, rfl, HN.out⟩
            case measure => simp [intOf]; omega
      · have HN : Hid (s.size = res) := by
          have h2 := HJ.out
          rw [idx_end isE s j (by omega)] at h2
          unfold Hid; omega
        go_wp2
        go_meet
        exact ⟨by rw [← HRES.out, HN.out], rfl⟩
  case rest =>
    obtain ⟨rfl, rfl⟩ := hcut
    have hel := idx_le isE s.data.toList
    rw [size_list] at hel
    obtain ⟨e, he⟩ : ∃ e, e = idx isE s.data.toList := ⟨_, rfl⟩
    have HE : Hid (e = idx isE s.data.toList) := he
    rw [← he] at hel ⊢
    clear he
    go_upto_region 8 with fail
    obtain ⟨m, hm⟩ : ∃ m, m = s.extract 0 e := ⟨_, rfl⟩
    have HMm : Hid (m.data.toList = s.data.toList.take e) := by unfold Hid; rw [hm, Lib.extract_data]; simp
    have hmz : m.size ≤ 2097152 := by rw [← size_list, HMm.out, List.length_take, size_list]; omega
    rw [← hm]
    clear hm
    go_upto_block 2 with fail
    go_cut [10, 11, 12] (fun v10 v11 v12 wx => ∃ W F : ByteArray, v10 = .string W ∧ v11 = .string F ∧ Hid (W.data.toList = m.data.toList.take (idx isDot m.data.toList) ∧ F.data.toList = fracM m.data.toList) ∧ wx = wc)
    case first =>
      obtain ⟨res, hres⟩ : ∃ res, res = idx isDot m.data.toList := ⟨_, rfl⟩
      have HRES : Hid (res = idx isDot m.data.toList) := hres
      clear hres
      go_wp2_with fail
      go_loop [10, 11, 12] (fun v10 v11 v => ∃ k : Nat, k ≤ m.size ∧ v = .int .i64 k ∧ v10 = .string m ∧ v11 = .string ⟨#[]⟩ ∧ Hid (k + idx isDot (m.data.toList.drop k) = res)) (fun _ _ v => m.size - (intOf v).toNat)
      case atStart => exact ⟨0, Nat.zero_le _, rfl, rfl, rfl, by unfold Hid; rw [HRES.out]; simp⟩
      case round =>
        obtain ⟨j, hj, rfl, rfl, rfl, HJ⟩ := hrel
        by_cases hltj : j < m.size
        · by_cases h1 : m[j].toNat = 46
          · have b1 : ((m[j].toNat : Int) == 46) = true := by simp [h1]
            have HN : Hid (j = idx isDot m.data.toList) := by
              have h2 := HJ.out
              rw [idx_at isDot m j hltj, if_pos (by simp [isDot, h1])] at h2
              unfold Hid; rw [← HRES.out]; omega
            have HW : Hid ((m.extract 0 j).data.toList = m.data.toList.take (idx isDot m.data.toList) ∧ (m.extract (j + 1) m.size).data.toList = fracM m.data.toList) := by
              refine ⟨?_, ?_⟩
              · rw [Lib.extract_data, ← HN.out]; simp
              · unfold fracM
                rw [Lib.extract_data, ← HN.out, List.tail_drop, List.take_of_length_le (by rw [List.length_drop, size_list]; omega)]
            clear h1
            go_wp2
            go_meet
            exact ⟨_, _, rfl, rfl, HW.out, rfl⟩
          · have b1 : ((m[j].toNat : Int) == 46) = false := by simp; omega
            have HN : Hid (j + 1 + idx isDot (m.data.toList.drop (j + 1)) = res) := by
              have h2 := HJ.out
              rw [idx_at isDot m j hltj, if_neg (by simp [isDot, h1])] at h2
              unfold Hid; omega
            clear h1
            go_wp2
            go_round
            case rel => exact ⟨j + 1, by omega, by go_num, rfl, rfl, HN.out⟩
            case measure => simp [intOf]; omega
        · have HW : Hid (m.data.toList = m.data.toList.take (idx isDot m.data.toList) ∧ (ByteArray.mk #[]).data.toList = fracM m.data.toList) := by
            have h2 := HJ.out
            rw [idx_end isDot m j (by omega)] at h2
            have h3 : idx isDot m.data.toList = m.data.toList.length := by rw [← HRES.out, size_list]; omega
            refine ⟨?_, ?_⟩
            · rw [h3, List.take_length]
            · unfold fracM; rw [h3, List.drop_length]; rfl
          go_wp2
          go_meet
          exact ⟨_, _, rfl, rfl, HW.out, rfl⟩
    case rest =>
      obtain ⟨W, F, rfl, rfl, HWF, rfl⟩ := hcut
      have hlm : m.data.toList.length = m.size := size_list m
      have hwz : W.size ≤ 2097152 := by rw [← size_list, HWF.out.1, List.length_take, size_list]; omega
      have hfz : F.size ≤ 2097152 := by
        rw [← size_list, HWF.out.2]; unfold fracM; rw [List.tail_drop, List.length_drop, size_list]; omega
      have hidx : idx isDot m.data.toList = W.size := by
        have h1 := idx_le isDot m.data.toList
        rw [← size_list W, HWF.out.1, List.length_take]; omega
      have hWl : W.data.toList = s.data.toList.take W.size := by
        have h2 := HWF.out.1
        rw [hidx, HMm.out, List.take_take] at h2
        have h3 : W.size ≤ e := by
          have h1 := idx_le isDot m.data.toList
          rw [hidx, HMm.out, List.length_take] at h1; omega
        rw [Nat.min_eq_left h3] at h2
        exact h2
      have HWl : Hid (W.data.toList = s.data.toList.take W.size) := hWl
      have HX2 : Hid (x = if W.size + F.size = 0 ∨ allB W.data.toList = false ∨ allB F.data.toList = false then none else (if e < s.size then expM (s.data.toList.drop (e + 1)) else some 0).map fun ee => (W.size, F.data.toList, ee)) := by
        unfold Hid
        rw [HX.out]
        unfold modelP
        rw [← HE.out, ← HMm.out, hidx, ← HWF.out.2, size_list F, size_list s]
        have h5 : List.take W.size m.data.toList = W.data.toList := by rw [← hidx]; exact HWF.out.1.symm
        rw [h5]
      have ca := allDigits_any W wc (by omega)
      have cb := allDigits_any F wc (by omega)
      have HAW : Hid (allB W.data.toList = true → AllD W.data.toList) := (allB_iff _).1
      have HAF : Hid (allB F.data.toList = true → AllD F.data.toList) := (allB_iff _).1
      clear HX HMm hmz HWF hlm hidx hWl
      generalize allB W.data.toList = xa at *
      generalize allB F.data.toList = xb at *
      go_upto_region 16 with fail
      go_cut [71] (fun c wx => c = .bool (decide (W.size + F.size = 0) || (!xa || !xb)) ∧ wx = wc)
      case first =>
        by_cases ht : W.size + F.size = 0
        · have b0 : ((W.size : Int) + (F.size : Int) == 0) = true := by simp; omega
          have HB : Hid ((decide (W.size + F.size = 0) || (!xa || !xb)) = true) := by unfold Hid; simp [ht]
          clear ht ca cb
          go_wp2_with fail
          go_meet
          exact ⟨by rw [HB.out], rfl⟩
        · have b0 : ((W.size : Int) + (F.size : Int) == 0) = false := by simp; omega
          have hdt : decide (W.size + F.size = 0) = false := decide_eq_false ht
          cases xa
          · have HB : Hid ((decide (W.size + F.size = 0) || (!false || !xb)) = true) := by unfold Hid; simp
            clear ht hdt cb
            go_wp2_with fail
            refine ca.mono ?_
            rintro e wx ⟨rfl, hw⟩
            rw [hw]
            clear hw wx ca
            go_wp2_with fail
            go_meet
            exact ⟨by rw [HB.out], rfl⟩
          · have HB : Hid ((decide (W.size + F.size = 0) || (!true || !xb)) = !xb) := by unfold Hid; rw [hdt]; simp
            clear ht hdt
            go_wp2_with fail
            refine ca.mono ?_
            rintro e wx ⟨rfl, hw⟩
            rw [hw]
            clear hw wx ca
            go_wp2_with fail
            refine cb.mono ?_
            rintro e wx ⟨rfl, hw⟩
            rw [hw]
            clear hw wx cb
            go_wp2_with fail
            go_meet
            exact ⟨by rw [HB.out], rfl⟩
      case rest =>
        obtain ⟨rfl, rfl⟩ := hcut
        clear ca cb
        rcases Bool.eq_false_or_eq_true (decide (W.size + F.size = 0) || (!xa || !xb)) with hB | hB
        · have HN : Hid (x = none) := by
            unfold Hid
            rw [HX2.out, if_pos]
            by_cases ht : W.size + F.size = 0
            · exact .inl ht
            · rw [decide_eq_false ht] at hB
              cases xa
              · exact .inr (.inl rfl)
              · cases xb
                · exact .inr (.inr rfl)
                · cases hB
          rw [hB]
          clear hB
          go_wp2
          exact bodyPost_ret (v := .tuple #[.string ⟨#[]⟩, .string ⟨#[]⟩, .int .i64 0, .int .i64 0, .bool false]) (by simp [results, Try.results7, go_sem]) rfl ⟨HBAD.out HN.out, rfl⟩
        · have hxx : xa = true ∧ xb = true ∧ ¬ W.size + F.size = 0 := by
            by_cases ht : W.size + F.size = 0
            · rw [decide_eq_true ht] at hB; cases hB
            · rw [decide_eq_false ht] at hB
              cases xa
              · cases hB
              · cases xb
                · cases hB
                · exact ⟨rfl, rfl, ht⟩
          have HX3 : Hid (x = (if e < s.size then expM (s.data.toList.drop (e + 1)) else some 0).map fun ee => (W.size, F.data.toList, ee)) := by
            unfold Hid
            rw [HX2.out, if_neg]
            rintro (h | h | h)
            · exact hxx.2.2 h
            · rw [hxx.1] at h; cases h
            · rw [hxx.2.1] at h; cases h
          rw [hB]
          clear hB hxx HX2 HAW HAF
          go_upto_if 75 with fail
          go_cut [13, 14, 15] (fun v13 v14 v15 wx => ∃ ex : Int, v13 = .int .i64 ex ∧ -99999999999999 ≤ ex ∧ ex ≤ 99999999999999 ∧ Hid (x = some (W.size, F.data.toList, ex)) ∧ wx = wc)
          case first =>
            by_cases hes : e < s.size
            · have HX4 : Hid (x = (expM (s.data.toList.drop (e + 1))).map fun ee => (W.size, F.data.toList, ee)) := by have := HX3.out; rwa [if_pos hes] at this
              clear HX3
              go_upto_region 22 with fail
              obtain ⟨r, hr⟩ : ∃ r, r = s.extract (e + 1) s.size := ⟨_, rfl⟩
              have HR : Hid (r.data.toList = s.data.toList.drop (e + 1)) := by
                unfold Hid; rw [hr, Lib.extract_data, List.take_of_length_le (by rw [List.length_drop, size_list]; omega)]
              have hrz : r.size ≤ 2097152 := by rw [← size_list, HR.out, List.length_drop, size_list]; omega
              rw [← hr]
              clear hr
              have HX5 : Hid (x = (expM r.data.toList).map fun ee => (W.size, F.data.toList, ee)) := by unfold Hid; rw [HX4.out, HR.out]
              have HS0 : Hid (∀ n, isS n = (decide (n = 45) || decide (n = 43))) := fun _ => rfl
              clear HX4 HR
              go_cut [87] (fun c wx => c = .bool (decide (hd r.data.toList = 45)) ∧ wx = wc)
              case first =>
                by_cases hr0 : 0 < r.size
                · have e0 : hd r.data.toList = r[0].toNat := by have := hd_at r 0 hr0; simpa using this
                  by_cases h1 : r[0].toNat = 45
                  · have b1 : ((r[0].toNat : Int) == 45) = true := by simp [h1]
                    have HB : Hid (decide (hd r.data.toList = 45) = true) := by unfold Hid; rw [e0]; simp [h1]
                    clear e0 h1
                    go_wp2
                    go_meet
                    exact ⟨by rw [HB.out], rfl⟩
                  · have b1 : ((r[0].toNat : Int) == 45) = false := by simp; omega
                    have HB : Hid (decide (hd r.data.toList = 45) = false) := by unfold Hid; rw [e0]; simp [h1]
                    clear e0 h1
                    go_wp2
                    go_meet
                    exact ⟨by rw [HB.out], rfl⟩
                · have e0 : hd r.data.toList = 0 := by have := hd_end r 0 (by omega); simpa using this
                  have HB : Hid (decide (hd r.data.toList = 45) = false) := by unfold Hid; rw [e0]; simp
                  have hdl : decide (0 < (r.size : Int)) = false := decide_eq_false (by omega)
                  clear e0
                  go_wp2
                  go_meet
                  exact ⟨by rw [HB.out], rfl⟩
              case rest =>
                obtain ⟨rfl, rfl⟩ := hcut
                go_upto_if 87 with fail
                go_cut [14, 15] (fun v14 v15 wx => ∃ R : ByteArray, v14 = .string R ∧ v15 = .bool (decide (hd r.data.toList = 45)) ∧ R.size ≤ 2097152 ∧ Hid (R.data.toList = if isS (hd r.data.toList) then r.data.toList.tail else r.data.toList) ∧ wx = wc)
                case first =>
                  have HTL : Hid (1 ≤ r.size → (r.extract 1 r.size).data.toList = r.data.toList.tail ∧ (r.extract 1 r.size).size ≤ 2097152) := by
                    intro h1
                    have e1 : (r.extract 1 r.size).data.toList = r.data.toList.tail := by
                      rw [Lib.extract_data, List.take_of_length_le (by rw [List.length_drop, size_list]; omega), List.drop_one]
                    refine ⟨e1, ?_⟩
                    rw [← size_list, e1, List.length_tail, size_list]; omega
                  have hpos : ∀ n, n ≠ 0 → hd r.data.toList = n → 1 ≤ r.size := by
                    intro n hn h
                    by_cases hr0 : 0 < r.size
                    · exact hr0
                    · have := hd_end r 0 (by omega)
                      simp at this; omega
                  have HPOS : Hid (∀ n, n ≠ 0 → hd r.data.toList = n → 1 ≤ r.size) := hpos
                  clear hpos
                  rcases Bool.eq_false_or_eq_true (decide (hd r.data.toList = 45)) with hB | hB
                  · have h45 := of_decide_eq_true hB
                    have hr1 := HPOS.out 45 (by omega) h45
                    have HN : Hid ((r.extract 1 r.size).data.toList = if isS (hd r.data.toList) then r.data.toList.tail else r.data.toList) := by
                      unfold Hid; rw [HS0.out, h45, if_pos (by simp)]; exact (HTL.out hr1).1
                    have HZ : Hid ((r.extract 1 r.size).size ≤ 2097152) := (HTL.out hr1).2
                    have HBB : Hid (decide (hd r.data.toList = 45) = true) := hB
                    rw [hB]
                    clear hB h45
                    go_wp2
                    go_meet
                    exact ⟨_, rfl, by rw [HBB.out], HZ.out, HN.out, rfl⟩
                  · have h45 := of_decide_eq_false hB
                    have HBB : Hid (decide (hd r.data.toList = 45) = false) := hB
                    have H45 : Hid (¬ hd r.data.toList = 45) := h45
                    rw [hB]
                    clear hB h45
                    go_upto_region 25 with fail
                    go_cut [97] (fun c wx => c = .bool (decide (hd r.data.toList = 43)) ∧ wx = wc)
                    case first =>
                      by_cases hr0 : 0 < r.size
                      · have e0 : hd r.data.toList = r[0].toNat := by have := hd_at r 0 hr0; simpa using this
                        by_cases h1 : r[0].toNat = 43
                        · have b1 : ((r[0].toNat : Int) == 43) = true := by simp [h1]
                          have HB : Hid (decide (hd r.data.toList = 43) = true) := by unfold Hid; rw [e0]; simp [h1]
                          clear e0 h1
                          go_wp2
                          go_meet
                          exact ⟨by rw [HB.out], rfl⟩
                        · have b1 : ((r[0].toNat : Int) == 43) = false := by simp; omega
                          have HB : Hid (decide (hd r.data.toList = 43) = false) := by unfold Hid; rw [e0]; simp [h1]
                          clear e0 h1
                          go_wp2
                          go_meet
                          exact ⟨by rw [HB.out], rfl⟩
                      · have e0 : hd r.data.toList = 0 := by have := hd_end r 0 (by omega); simpa using this
                        have HB : Hid (decide (hd r.data.toList = 43) = false) := by unfold Hid; rw [e0]; simp
                        have hdl : decide (0 < (r.size : Int)) = false := decide_eq_false (by omega)
                        clear e0
                        go_wp2
                        go_meet
                        exact ⟨by rw [HB.out], rfl⟩
                    case rest =>
                      obtain ⟨rfl, rfl⟩ := hcut
                      rcases Bool.eq_false_or_eq_true (decide (hd r.data.toList = 43)) with hB | hB
                      · have h43 := of_decide_eq_true hB
                        have hr1 := HPOS.out 43 (by omega) h43
                        have HN : Hid ((r.extract 1 r.size).data.toList = if isS (hd r.data.toList) then r.data.toList.tail else r.data.toList) := by
                          unfold Hid; rw [HS0.out, h43, if_pos (by simp)]; exact (HTL.out hr1).1
                        have HZ : Hid ((r.extract 1 r.size).size ≤ 2097152) := (HTL.out hr1).2
                        rw [hB]
                        clear hB h43
                        go_wp2
                        go_meet
                        exact ⟨_, rfl, by rw [HBB.out], HZ.out, HN.out, rfl⟩
                      · have h43 := of_decide_eq_false hB
                        have HN : Hid (r.data.toList = if isS (hd r.data.toList) then r.data.toList.tail else r.data.toList) := by
                          unfold Hid; rw [HS0.out, if_neg (by simp [H45.out, h43])]
                        rw [hB]
                        clear hB h43
                        go_wp2
                        go_meet
                        exact ⟨_, rfl, by rw [HBB.out], hrz, HN.out, rfl⟩
                case rest =>
                  obtain ⟨R, rfl, rfl, hRz, HRR, rfl⟩ := hcut
                  have HX6 : Hid (x = (if R.data.toList = [] ∨ allB R.data.toList = false then none else some (if hd r.data.toList = 45 then - capM R.data.toList else capM R.data.toList)).map fun ee => (W.size, F.data.toList, ee)) := by
                    unfold Hid; rw [HX5.out]; unfold expM; rw [← HRR.out]
                  generalize hnb : decide (hd r.data.toList = 45) = nb at *
                  have HNB : Hid (decide (hd r.data.toList = 45) = nb) := hnb
                  have cr := allDigits_any R wc (by omega)
                  have HAR : Hid (allB R.data.toList = true → AllD R.data.toList) := (allB_iff _).1
                  have HXB : Hid (∃ xb, xb = allB R.data.toList) := ⟨_, rfl⟩
                  obtain ⟨xr, hxr⟩ := HXB.out
                  have HXR : Hid (xr = allB R.data.toList) := hxr
                  rw [← hxr] at cr
                  clear hnb HXB hxr HX5 HRR
                  by_cases hR0 : R.size = 0
                  · have HN : Hid (x = none) := by
                      unfold Hid; rw [HX6.out, if_pos (.inl (List.eq_nil_of_length_eq_zero (by rw [size_list]; exact hR0)))]; rfl
                    have b0 : ((R.size : Int) == 0) = true := beq_iff_eq.2 (by omega)
                    clear hR0 cr
                    go_wp2_with fail
                    exact bodyPost_ret (v := .tuple #[.string ⟨#[]⟩, .string ⟨#[]⟩, .int .i64 0, .int .i64 0, .bool false]) (by simp [results, Try.results7, go_sem]) rfl ⟨HBAD.out HN.out, rfl⟩
                  · have b0 : ((R.size : Int) == 0) = false := beq_eq_false_iff_ne.2 (by omega)
                    have HR0 : Hid (¬ R.data.toList = []) := fun h => hR0 (by rw [← size_list, h]; rfl)
                    clear hR0
                    cases xr
                    · have HN : Hid (x = none) := by
                        unfold Hid; rw [HX6.out, if_pos (.inr HXR.out.symm)]; rfl
                      go_wp2_with fail
                      refine cr.mono ?_
                      rintro e wx ⟨rfl, hw⟩
                      rw [hw]
                      clear hw wx cr
                      go_wp2_with fail
                      exact bodyPost_ret (v := .tuple #[.string ⟨#[]⟩, .string ⟨#[]⟩, .int .i64 0, .int .i64 0, .bool false]) (by simp [results, Try.results7, go_sem]) rfl ⟨HBAD.out HN.out, rfl⟩
                    · have hall : AllD R.data.toList := HAR.out HXR.out.symm
                      have cc := capped_any R wc (by omega) hall
                      have hbd := capM_bd hall
                      have HN : Hid (x = some (W.size, F.data.toList, if hd r.data.toList = 45 then - capM R.data.toList else capM R.data.toList)) := by
                        unfold Hid
                        rw [HX6.out, if_neg]
                        · rfl
                        · rintro (h | h)
                          · exact HR0.out h
                          · rw [← HXR.out] at h; cases h
                      clear hall HX6
                      generalize capM R.data.toList = cv at *
                      go_wp2_with fail
                      refine cr.mono ?_
                      rintro e wx ⟨rfl, hw⟩
                      rw [hw]
                      clear hw wx cr
                      go_wp2_with fail
                      refine cc.mono ?_
                      rintro e wx ⟨rfl, hw⟩
                      rw [hw]
                      clear hw wx cc
                      cases nb
                      · have HN2 : Hid (x = some (W.size, F.data.toList, cv)) := by have := HN.out; rwa [if_neg (of_decide_eq_false HNB.out)] at this
                        go_wp2_with fail
                        go_meet
                        exact ⟨cv, rfl, by omega, by omega, HN2.out, rfl⟩
                      · have HN2 : Hid (x = some (W.size, F.data.toList, -cv)) := by have := HN.out; rwa [if_pos (of_decide_eq_true HNB.out)] at this
                        go_wp2_with fail
                        go_meet
                        exact ⟨-cv, rfl, by omega, by omega, HN2.out, rfl⟩
            · have HN : Hid (x = some (W.size, F.data.toList, 0)) := by have := HX3.out; rwa [if_neg hes] at this
              go_wp2_with fail
              go_meet
              exact ⟨0, rfl, by omega, by omega, HN.out, rfl⟩
          case rest =>
            obtain ⟨ex, rfl, hx1, hx2, HN, rfl⟩ := hcut
            have cf := firstNonZero_any W F wc (by omega)
            go_wp2_with fail
            refine cf.mono ?_
            rintro e wx ⟨rfl, hw⟩
            rw [hw]
            clear hw wx cf
            have HFIN : Hid (Ans5 s.data.toList x (.returned (.tuple #[.string W, .string F, .int .i64 ((W.size : Int) + ex), .int .i64 ((lead0 (W.data.toList ++ F.data.toList) : Nat) : Int), .bool true]))) :=
              ⟨_, _, _, _, _, rfl, .inr ⟨W.size, F.data.toList, ex, HN.out, HWl.out, rfl, rfl, rfl, rfl⟩⟩
            generalize lead0 (W.data.toList ++ F.data.toList) = lz at *
            go_wp2
            exact bodyPost_ret (v := .tuple #[.string W, .string F, .int .i64 ((W.size : Int) + ex), .int .i64 (lz : Int), .bool true]) (by simp [results, Try.results7, go_sem]) rfl ⟨HFIN.out, rfl⟩
end Go.Proofs.Qxb6604309a
