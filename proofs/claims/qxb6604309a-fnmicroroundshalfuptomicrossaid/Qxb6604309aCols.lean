import Derived.Test.Qxb6604309aStr
import Derived.Lib.Strings
import Derived.Deep.DeepCutAuto
import Derived.Deep.CutBlock
namespace Go.Proofs.Qxb6604309a
open Go.RowKit

/-- What zzMicroByColumns answers. -/
def Cols (D : List UInt8) (p : Int) (z r : Bool) (v : Int) : Prop :=
  (lead0 D = D.length ∧ z = true ∧ r = false ∧ v = 0) ∨
  (lead0 D < D.length ∧ 10 ≤ p - lead0 D ∧ z = false ∧ r = true ∧ v = 0) ∨
  (lead0 D < D.length ∧ p - lead0 D ≤ 9 ∧ z = false ∧ r = false ∧ v = v7 D p (lead0 D))

def ColsAns (D : List UInt8) (p : Int) (e : Ending) : Prop := ∃ (z r : Bool) (v : Int), e = .returned (.tuple #[.bool z, .bool r, .int .i64 v]) ∧ Cols D p z r v

/-- Behind the last column nothing is added but zeros. -/
theorem V_pad (D : List UInt8) (F e c : Nat) (h : F ≤ e) (he : c = 0 ∨ e = D.length) : V D F (e - F + c) = V D F (e - F) * 10 ^ c := by
  rw [V_add]
  rcases he with rfl | rfl
  · simp [V]
  · rw [V_zero D _ c (fun k h1 h2 => by unfold dgt; rw [if_neg (by omega)])]
    omega

set_option maxRecDepth 100000 in
set_option maxHeartbeats 4000000 in
theorem cols_any (a b : ByteArray) (p : Int) (w : World) (hs : a.size + b.size ≤ 4194304) (ha : AllD a.data.toList) (hb : AllD b.data.toList) (hp1 : -4611686018427387904 ≤ p) (hp2 : p ≤ 4611686018427387904) :
    Calls Try.prog 11 #[.string a, .string b, .int .i64 p] w fun e w' => ColsAns (a.data.toList ++ b.data.toList) p e ∧ w' = w := by
  obtain ⟨d, hd⟩ : ∃ d, d = a ++ b := ⟨_, rfl⟩
  have HD : Hid (d.data.toList = a.data.toList ++ b.data.toList) := by unfold Hid; rw [hd]; simp
  have hdz : d.size ≤ 4194304 := by rw [← size_list, HD.out, List.length_append, size_list, size_list]; exact hs
  have HA : Hid (AllD d.data.toList) := by unfold Hid; rw [HD.out]; exact ha.append hb
  have HDD : Hid (d = a ++ b) := hd
  clear hd ha hb
  go_enter Try.func11, Try.ntmps11
  go_upto_region 2 with fail
  rw [← HDD.out]
  go_wp2_with fail
  go_loop [11, 12] (fun z v => ∃ k : Nat, k ≤ d.size ∧ v = .int .i64 k ∧ z = .bool true ∧ Hid (k + lead0 (d.data.toList.drop k) = lead0 d.data.toList)) (fun _ v => d.size - (intOf v).toNat)
  case atStart => exact ⟨0, Nat.zero_le _, rfl, rfl, by unfold Hid; simp⟩
  case round =>
    obtain ⟨k, hk, rfl, rfl, HK⟩ := hrel
    by_cases hlt : k < d.size
    · by_cases h1 : d[k].toNat = 48
      · have b1 : ((d[k].toNat : Int) != 48) = false := by simp [h1]
        have HN : Hid (k + 1 + lead0 (d.data.toList.drop (k + 1)) = lead0 d.data.toList) := by
          have h2 := HK.out
          rw [lead0_at d k hlt, if_pos h1] at h2
          unfold Hid; omega
        clear h1
        go_wp2
        go_round
        case rel => exact ⟨k + 1, by omega, by go_num, rfl, HN.out⟩
        case measure => simp [intOf]; omega
      · have b1 : ((d[k].toNat : Int) != 48) = true := by simp; omega
        have HF : Hid (lead0 d.data.toList = k) := by
          have h2 := HK.out
          rw [lead0_at d k hlt, if_neg h1] at h2
          unfold Hid; omega
        have HLen : Hid (d.data.toList.length = d.size) := size_list d
        clear h1 HK
        go_upto_if 41 with fail
        go_cut [13] (fun v wx => ∃ e1 : Int, v = .int .i64 e1 ∧ ((p < 0 ∧ e1 = 0) ∨ (0 ≤ p ∧ e1 = p)) ∧ wx = w)
        case first =>
          by_cases hp0 : p < 0
          · go_wp2
            go_meet
            exact ⟨0, rfl, .inl ⟨hp0, rfl⟩, rfl⟩
          · go_wp2
            go_meet
            exact ⟨p, rfl, .inr ⟨by omega, rfl⟩, rfl⟩
        case rest =>
          obtain ⟨e1, rfl, he1, rfl⟩ := hcut
          go_upto_if 44 with fail
          go_cut [13] (fun v wx => ∃ e : Nat, v = .int .i64 e ∧ e ≤ d.size ∧ ((p < 0 ∧ e = 0) ∨ (0 ≤ p ∧ p ≤ d.size ∧ (e : Int) = p) ∨ ((d.size : Int) < p ∧ e = d.size)) ∧ wx = wc)
          case first =>
            by_cases hpn : (d.size : Int) < e1
            · go_wp2
              go_meet
              exact ⟨d.size, rfl, Nat.le_refl _, by omega, rfl⟩
            · obtain ⟨e, rfl⟩ := Int.eq_ofNat_of_zero_le (show 0 ≤ e1 by omega)
              go_wp2
              go_meet
              exact ⟨e, rfl, by omega, by omega, rfl⟩
          case rest =>
            clear he1
            obtain ⟨e, rfl, hed, he, rfl⟩ := hcut
            have HE : Hid ((p < 0 ∧ e = 0) ∨ (0 ≤ p ∧ p ≤ d.size ∧ (e : Int) = p) ∨ ((d.size : Int) < p ∧ e = d.size)) := he
            clear he
            go_upto_region 17 with fail
            obtain ⟨tt, htt⟩ : ∃ tt, tt = d.extract 0 e := ⟨_, rfl⟩
            have HT : Hid (tt.data.toList = d.data.toList.take e) := by unfold Hid; rw [htt, Lib.extract_data]; simp
            have htz : tt.size = e := by rw [← size_list, HT.out, List.length_take, size_list]; omega
            rw [← htt]
            clear htt
            go_upto_block 2 with fail
            go_cut [15] (fun v wx => v = .int .i64 ((lead0 tt.data.toList : Nat) : Int) ∧ wx = wc)
            case first =>
              obtain ⟨res, hres⟩ : ∃ res, res = lead0 tt.data.toList := ⟨_, rfl⟩
              have HRES : Hid (res = lead0 tt.data.toList) := hres
              clear hres
              go_wp2_with fail
              go_loop [15] (fun v => ∃ k : Nat, k ≤ tt.size ∧ v = .int .i64 k ∧ Hid (k + lead0 (tt.data.toList.drop k) = res)) (fun v => tt.size - (intOf v).toNat)
              case atStart => exact ⟨0, Nat.zero_le _, rfl, by unfold Hid; rw [HRES.out]; simp⟩
              case round =>
                obtain ⟨j, hj, rfl, HJ⟩ := hrel
                by_cases hltj : j < tt.size
                · by_cases h1 : tt[j].toNat = 48
                  · have b1 : ((tt[j].toNat : Int) == 48) = true := by simp [h1]
                    have HN : Hid (j + 1 + lead0 (tt.data.toList.drop (j + 1)) = res) := by
                      have h2 := HJ.out
                      rw [lead0_at tt j hltj, if_pos h1] at h2
                      unfold Hid; omega
                    clear h1
                    go_wp2
                    go_round
                    case rel => exact ⟨j + 1, by omega, by go_num, HN.out⟩
                    case measure => simp [intOf]; omega
                  · have b1 : ((tt[j].toNat : Int) == 48) = false := by simp; omega
                    have HN : Hid (j = res) := by
                      have h2 := HJ.out
                      rw [lead0_at tt j hltj, if_neg h1] at h2
                      unfold Hid; omega
                    clear h1
                    go_wp2
                    go_meet
                    exact ⟨by rw [← HRES.out, HN.out], rfl⟩
                · have HN : Hid (j = res) := by
                    have h2 := HJ.out
                    rw [lead0_end tt j (by omega)] at h2
                    unfold Hid; omega
                  have hdl : decide (j < tt.size) = false := decide_eq_false hltj
                  go_wp2
                  go_meet
                  exact ⟨by rw [← HRES.out, HN.out], rfl⟩
            case rest =>
              obtain ⟨rfl, rfl⟩ := hcut
              obtain ⟨f, hf⟩ : ∃ f, f = lead0 tt.data.toList := ⟨_, rfl⟩
              have hfk : f = min k e := by rw [hf, HT.out, lead0_take, HF.out]
              rw [← hf]
              have HFK : Hid (f = min k e) := hfk
              have hfe : f ≤ e := by omega
              clear hf hfk
              go_upto_region 21 with fail
              obtain ⟨u, hu⟩ : ∃ u, u = tt.extract f e := ⟨_, rfl⟩
              have HU : Hid (u.data.toList = (d.data.toList.drop f).take (e - f)) := by
                unfold Hid; rw [hu, Lib.extract_data, HT.out, List.drop_take, List.take_take, Nat.min_self]
              have huz : u.size = e - f := by rw [← size_list, HU.out, List.length_take, List.length_drop, size_list]; omega
              rw [← hu]
              have HUZ : Hid (u.size = e - f) := huz
              have hue : u.size ≤ 4194304 := by omega
              clear hu huz htz
              go_upto_if 66 with fail
              go_cut [16] (fun v wx => ∃ pd : Int, v = .int .i64 pd ∧ (((d.size : Int) < p ∧ pd = p - d.size) ∨ (p ≤ d.size ∧ pd = 0)) ∧ wx = wc)
              case first =>
                by_cases hpn : (d.size : Int) < p
                · go_wp2
                  go_meet
                  exact ⟨p - d.size, rfl, .inl ⟨hpn, rfl⟩, rfl⟩
                · go_wp2
                  go_meet
                  exact ⟨0, rfl, .inr ⟨by omega, rfl⟩, rfl⟩
              case rest =>
                obtain ⟨pd, rfl, hpd, rfl⟩ := hcut
                have HPD : Hid (((d.size : Int) < p ∧ pd = p - d.size) ∨ (p ≤ d.size ∧ pd = 0)) := hpd
                have hpd0 : 0 ≤ pd := by omega
                have hpd1 : pd ≤ 4611686018427387904 := by omega
                clear hpd
                go_upto_if 72 with fail
                go_cut [17] (fun v wx => v = .int .i64 (V d.data.toList (k : Int) (p - k).toNat) ∧ p - k ≤ 9 ∧ wx = wc)
                case first =>
                  by_cases hu0 : u.size = 0
                  · have hpk : p ≤ k := by
                      have h1 := HFK.out; have h2 := HUZ.out; have h3 := HE.out; omega
                    have HV : Hid (V d.data.toList (k : Int) (p - k).toNat = 0) := by
                      unfold Hid; rw [show (p - (k : Int)).toNat = 0 by omega]; rfl
                    go_wp2
                    go_meet
                    exact ⟨by rw [HV.out], by omega, rfl⟩
                  · have hke : f = k ∧ k < e := by
                      have h1 := HFK.out; have h2 := HUZ.out; omega
                    have htot : (u.size : Int) + pd = p - k := by
                      have h1 := HUZ.out; have h2 := HE.out; have h3 := HPD.out; omega
                    by_cases h10 : 10 ≤ (u.size : Int) + pd
                    · have HC : Hid (Cols (a.data.toList ++ b.data.toList) p false true 0) := by
                        unfold Hid; rw [← HD.out]
                        exact .inr (.inl ⟨by rw [HF.out, HLen.out]; exact hlt, by rw [HF.out]; omega, rfl, rfl, rfl⟩)
                      clear htot hke
                      go_wp2
                      go_ret3
                      exact ⟨⟨false, true, 0, rfl, HC.out⟩, rfl⟩
                    · obtain ⟨pn, rfl⟩ := Int.eq_ofNat_of_zero_le hpd0
                      have hval := value_any u wc (by omega) (by rw [HU.out]; exact HA.out.sub _ _)
                      have hvv : V u.data.toList 0 u.size = V d.data.toList (k : Int) (e - k) := by
                        rw [HU.out, HUZ.out, hke.1]
                        exact V_sub d.data.toList k (e - k) (by rw [HLen.out]; omega)
                      rw [hvv] at hval
                      have HTOT : Hid (e - k + pn = (p - k).toNat ∧ e - k + pn ≤ 9) := by
                        have h1 := HUZ.out; unfold Hid; omega
                      have HEND : Hid (pn = 0 ∨ e = d.data.toList.length) := by
                        have h2 := HE.out; have h3 := HPD.out; have h4 := HLen.out; unfold Hid; omega
                      have HKE : Hid (f = k ∧ k < e) := hke
                      have hpn9 : pn ≤ 9 := by have := HTOT.out; omega
                      clear htot hke hvv
                      go_wp2_with (go_at_call 17; refine hval.mono ?_; rintro e w' ⟨rfl, rfl⟩)
                      clear hval
                      go_loop [17, 18] (fun v i => ∃ c : Nat, c ≤ pn ∧ i = .int .i64 c ∧ v = .int .i64 (V d.data.toList (k : Int) (e - k + c))) (fun _ i => pn - (intOf i).toNat)
                      case atStart => exact ⟨0, Nat.zero_le _, rfl, rfl⟩
                      case round =>
                        obtain ⟨c, hc, rfl, rfl⟩ := hrel
                        have hV0 := (V_bd HA.out (k : Int) (e - k + c)).1
                        have hV1 : V d.data.toList (k : Int) (e - k + c) < 10 ^ 9 := V_lt HA.out _ (by have := HTOT.out; omega)
                        have hV2 : V d.data.toList (k : Int) (e - k + c) ≤ 999999999 := by
                          have : (10 : Int) ^ 9 = 1000000000 := rfl
                          omega
                        clear hV1
                        by_cases hcp : c < pn
                        · have HN : Hid (V d.data.toList (k : Int) (e - k + (c + 1)) = V d.data.toList (k : Int) (e - k + c) * 10) := by
                            unfold Hid
                            have hz : e = d.data.toList.length := by have := HEND.out; omega
                            have hd0 : dgt d.data.toList ((k : Int) + ((e - k + c : Nat) : Int)) = 0 := by
                              unfold dgt; rw [if_neg (by have := HKE.out; omega)]
                            show V d.data.toList (k : Int) (e - k + c) * 10 + dgt d.data.toList ((k : Int) + ((e - k + c : Nat) : Int)) = _
                            rw [hd0]; omega
                          generalize V d.data.toList (k : Int) (e - k + c) = v at *
                          go_wp2
                          go_round
                          case rel => exact ⟨c + 1, by omega, by go_num, by rw [HN.out]⟩
                          case measure => simp [intOf]; omega
                        · have HN : Hid (V d.data.toList (k : Int) (e - k + c) = V d.data.toList (k : Int) (p - k).toNat) := by
                            have := HTOT.out
                            unfold Hid; rw [← this.1, show c = pn by omega]
                          go_wp2
                          go_meet
                          exact ⟨by rw [HN.out], by have := HTOT.out; omega, rfl⟩
                case rest =>
                  obtain ⟨rfl, hpk9, rfl⟩ := hcut
                  clear HU HUZ hue HT HFK hfe HPD hpd0 hpd1
                  have hI0 := (V_bd HA.out (k : Int) (p - k).toNat).1
                  have hI1 : V d.data.toList (k : Int) (p - k).toNat < 10 ^ 9 := V_lt HA.out _ (by omega)
                  have hI2 : V d.data.toList (k : Int) (p - k).toNat ≤ 999999999 := by
                    have : (10 : Int) ^ 9 = 1000000000 := rfl
                    omega
                  have HV7 : Hid (v7 d.data.toList p (k : Int) = V d.data.toList (k : Int) (p - k).toNat * 10000000 + V d.data.toList p 7) := rfl
                  clear hI1
                  generalize V d.data.toList (k : Int) (p - k).toNat = ip at *
                  go_wp2_with fail
                  go_loop [19, 20] (fun v i => ∃ c : Nat, c ≤ 7 ∧ i = .int .i64 c ∧ v = .int .i64 (V d.data.toList p c)) (fun _ i => 7 - (intOf i).toNat)
                  case atStart => exact ⟨0, Nat.zero_le _, rfl, rfl⟩
                  case round =>
                    obtain ⟨c, hc, rfl, rfl⟩ := hrel
                    have hV0 := (V_bd HA.out p c).1
                    have hV1 : V d.data.toList p c < 10 ^ 7 := V_lt HA.out _ (by omega)
                    have hV2 : V d.data.toList p c ≤ 9999999 := by
                      have : (10 : Int) ^ 7 = 10000000 := rfl
                      omega
                    clear hV1
                    by_cases hc7 : c < 7
                    · have HN : Hid (V d.data.toList p (c + 1) = V d.data.toList p c * 10 + dgt d.data.toList (p + c)) := rfl
                      by_cases hi0 : 0 ≤ p + (c : Int)
                      · by_cases hi1 : p + (c : Int) < d.size
                        · obtain ⟨i, hi⟩ := Int.eq_ofNat_of_zero_le hi0
                          have hid : i < d.size := by omega
                          obtain ⟨h48, h57⟩ := HA.out.at i hid
                          have HDG : Hid (dgt d.data.toList (p + c) = (d[i].toNat : Int) - 48) := by
                            unfold Hid; rw [hi, ← V_take d i hid, Int.zero_add]
                          generalize V d.data.toList p c = v at *
                          go_wp2
                          go_round
                          case rel => exact ⟨c + 1, by omega, by go_num, by rw [HN.out, HDG.out]⟩
                          case measure => simp [intOf]; omega
                        · have hdd : decide (p + (c : Int) < (d.size : Int)) = false := decide_eq_false hi1
                          have HDG : Hid (dgt d.data.toList (p + c) = 0) := by
                            unfold Hid dgt; rw [if_neg (by have := HLen.out; omega)]
                          generalize V d.data.toList p c = v at *
                          go_wp2
                          go_round
                          case rel => exact ⟨c + 1, by omega, by go_num, by rw [HN.out, HDG.out]; simp⟩
                          case measure => simp [intOf]; omega
                      · have hdd : decide (0 ≤ p + (c : Int)) = false := decide_eq_false hi0
                        have HDG : Hid (dgt d.data.toList (p + c) = 0) := by
                          unfold Hid dgt; rw [if_neg (by omega)]
                        generalize V d.data.toList p c = v at *
                        go_wp2
                        go_round
                        case rel => exact ⟨c + 1, by omega, by go_num, by rw [HN.out, HDG.out]; simp⟩
                        case measure => simp [intOf]; omega
                    · have hc77 : c = 7 := by omega
                      subst hc77
                      generalize hv : V d.data.toList p 7 = v at *
                      have HC : Hid (Cols (a.data.toList ++ b.data.toList) p false false (ip * 10000000 + v)) := by
                        unfold Hid; rw [← HD.out]
                        exact .inr (.inr ⟨by rw [HF.out, HLen.out]; exact hlt, by rw [HF.out]; omega, rfl, rfl, by rw [HF.out, HV7.out]⟩)
                      clear hv
                      go_wp2
                      go_ret3
                      exact ⟨⟨false, false, _, rfl, HC.out⟩, rfl⟩
    · have HF : Hid (lead0 d.data.toList = d.data.toList.length) := by
        have h2 := HK.out
        rw [lead0_end d k (by omega)] at h2
        unfold Hid; rw [size_list]; omega
      go_wp2
      go_ret3
      exact ⟨⟨true, false, 0, rfl, .inl ⟨by rw [← HD.out]; exact HF.out, rfl, rfl, rfl⟩⟩, rfl⟩
end Go.Proofs.Qxb6604309a
