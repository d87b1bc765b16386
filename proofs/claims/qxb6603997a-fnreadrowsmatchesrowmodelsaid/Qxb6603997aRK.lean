import Derived.Test.Qxb6603997aRJ
import Derived.Deep.RegionWith
import Derived.Deep.DeepCutAuto
import Derived.Deep.CutBlock
namespace Go.Proofs.Qxb6603997a
open Go.RowKit

theorem hid1 {p : Prop} (h : p) : Hid p := h
/-- No slice is longer than Go lets it be. -/
theorem Hd.ok.le {h : Hd} (k : h.ok) : h.n ≤ maxLen := Nat.le_trans k.2.1 k.2.2

set_option maxRecDepth 100000 in
set_option maxHeartbeats 4000000 in
theorem modelSize_any (ht hd hc hr hs hu hx : Hd) (T : Nat → Tok) (C U X : Nat → ByteArray) (R : Nat → RowD) (S : Nat → SetD) (sc nm : ByteArray) (w : World)
    (kt : ht.ok) (kc : hc.ok) (kr : hr.ok) (ks : hs.ok) (ku : hu.ok) (kx : hx.ok) (at_ : ToksAt w ht T) (ac : StrsAt w hc C) (au : StrsAt w hu U) (ax : StrsAt w hx X) (ar : RowsAt w hr R) (as_ : SetAt w hs S) :
    Calls Try.prog 9 #[ht.val, hd.val, .string sc, .string nm, hc.val, hr.val, hs.val, hu.val, hx.val] w fun e w' => SizeAns e ∧ w' = w := by
  have H1 := fun t (h : 0 ≤ t) => tokSize_any ht T t w at_ h kt.le
  have H2 := fun t (h : 0 ≤ t) => strSize_any hc C t w ac h kc.le
  have H3 := fun t (h : 0 ≤ t) => strSize_any hu U t w au h ku.le
  have H4 := fun t (h : 0 ≤ t) => strSize_any hx X t w ax h kx.le
  have HR : Hid (RowsAt w hr R) := ar
  have HS : Hid (SetAt w hs S) := as_
  have lr := kr.le
  have ls := ks.le
  have lr' : (hr.n : Int) ≤ 9223372036854775807 := by have : hr.n ≤ 9223372036854775807 := lr; omega
  have ls' : (hs.n : Int) ≤ 9223372036854775807 := by have : hs.n ≤ 9223372036854775807 := ls; omega
  clear at_ ac au ax ar as_ lr ls kt kc kr ks ku kx
  obtain ⟨ar, nr, cr⟩ := hr
  obtain ⟨as_, ns, cs⟩ := hs
  unfold Hd.val at H1 H2 H3 H4 ⊢
  have K1 := hid1 H1
  have K2 := hid1 H2
  have K3 := hid1 H3
  have K4 := hid1 H4
  clear H1 H2 H3 H4
  go_enter Try.func9, Try.ntmps9
  go_upto_block 0 with (first
    | (go_at_call 28; refine (rrAdd_any _ _ _ _ (by omega) (by omega) (by omega)).mono ?_; rintro e w' ⟨⟨r, rfl, hr0, hr1⟩, hw⟩; rw [hw]; clear hw w')
    | (go_at_call 27; refine (K1.out _ (by omega)).mono ?_; rintro e w' ⟨⟨r, rfl, hr0, hr1⟩, hw⟩; rw [hw]; clear hw w')
    | (go_at_call_of 29 (hc.a); refine (K2.out _ (by omega)).mono ?_; rintro e w' ⟨⟨r, rfl, hr0, hr1⟩, hw⟩; rw [hw]; clear hw w')
    | (go_at_call_of 29 (hu.a); refine (K3.out _ (by omega)).mono ?_; rintro e w' ⟨⟨r, rfl, hr0, hr1⟩, hw⟩; rw [hw]; clear hw w')
    | (go_at_call_of 29 (hx.a); refine (K4.out _ (by omega)).mono ?_; rintro e w' ⟨⟨r, rfl, hr0, hr1⟩, hw⟩; rw [hw]; clear hw w'))
  go_cut [19, 20, 21] (fun v _ _ wx => ∃ r : Int, v = .int .i64 r ∧ 0 ≤ r ∧ r ≤ 268435456 ∧ wx = w)
  case first =>
    as_aux_lemma =>
      go_wp2_with fail
      go_loopg [19, 20] nr (fun g v i wr => ∃ (k : Nat) (r : Int), k ≤ nr ∧ g = nr - k ∧ i = .int .i64 k ∧ v = .int .i64 r ∧ 0 ≤ r ∧ r ≤ 268435456 ∧ wr = w)
      case atStart => exact ⟨0, r, Nat.zero_le _, rfl, rfl, rfl, hr0, hr1, rfl⟩
      case round =>
        obtain ⟨k, r, hk, hg, rfl, rfl, hr0, hr1, hw⟩ := hrel
        rw [hw]
        clear hw
        by_cases hlt : k < nr
        · by_cases hle : r ≤ 1048576
          · obtain ⟨⟨b, off, he, hc⟩, hok, hv⟩ := HR.out k hlt
            cases he
            have c2 := hc.c2
            have lv : ((R k).v.n : Int) ≤ 9223372036854775807 := by have : (R k).v.n ≤ 9223372036854775807 := hok.le; omega
            have HV : Hid (ValsAt w (R k).v (R k).H (R k).T) := hv
            clear hc hv hok
            obtain ⟨⟨av, nv, cv⟩, hRv⟩ : ∃ x, x = (R k).v := ⟨_, rfl⟩
            rw [← hRv] at c2 HV lv
            generalize (R k).H = H at *
            generalize (R k).T = T2 at *
            unfold Hd.val at c2
            clear hRv
            go_wp2_with (go_at_call 28; refine (rrAdd_any _ _ _ _ (by omega) (by omega) (by omega)).mono ?_; rintro e w' ⟨⟨r2, rfl, hr2, hr3⟩, hw⟩; rw [hw]; clear hw w')
            go_loopg [19, 21] nv (fun g v i wr => ∃ (k : Nat) (r : Int), k ≤ nv ∧ g = nv - k ∧ i = .int .i64 k ∧ v = .int .i64 r ∧ 0 ≤ r ∧ r ≤ 268435456 ∧ wr = w)
            case atStart => exact ⟨0, r2, Nat.zero_le _, rfl, rfl, rfl, hr2, hr3, rfl⟩
            case round =>
              clear hr2 hr3
              obtain ⟨j, r2, hj, hg2, rfl, rfl, hr2, hr3, hw⟩ := hrel
              rw [hw]
              clear hw
              by_cases hltj : j < nv
              · by_cases hlej : r2 ≤ 1048576
                · obtain ⟨⟨b2, off2, he2, hc2⟩, hok2, hv2⟩ := HV.out j hltj
                  cases he2
                  rw [Nat.mul_one] at hc2
                  have HT := hid1 (fun t (h : 0 ≤ t) => tokSize_any (H j) (T2 j) t w hv2 h hok2.le)
                  unfold Hd.val at hc2 HT
                  clear hv2 hok2
                  go_wp2_with (go_at_call 27; refine (HT.out _ (by omega)).mono ?_; rintro e w' ⟨⟨r3, rfl, hr4, hr5⟩, hw⟩; rw [hw]; clear hw w')
                  go_roundg (nv - (j + 1))
                  case measure => omega
                  case rel => exact ⟨j + 1, r3, by omega, rfl, by go_num, rfl, hr4, hr5, rfl⟩
                · have d : decide (r2 ≤ 1048576) = false := decide_eq_false hlej
                  go_wp2
                  go_roundg (nr - (k + 1))
                  case measure => omega
                  case rel => exact ⟨k + 1, r2, by omega, rfl, by go_num, rfl, hr2, hr3, rfl⟩
              · have d : decide ((j : Int) < (nv : Int)) = false := decide_eq_false (by omega)
                go_wp2
                go_roundg (nr - (k + 1))
                case measure => omega
                case rel => exact ⟨k + 1, r2, by omega, rfl, by go_num, rfl, hr2, hr3, rfl⟩
          · have d : decide (r ≤ 1048576) = false := decide_eq_false hle
            go_wp2
            go_meet
            exact ⟨r, rfl, hr0, hr1, rfl⟩
        · have d : decide ((k : Int) < (nr : Int)) = false := decide_eq_false (by omega)
          go_wp2
          go_meet
          exact ⟨r, rfl, hr0, hr1, rfl⟩
  case rest =>
    obtain ⟨rr, rfl, hq0, hq1, hw⟩ := hcut
    rw [hw]
    clear hw
    go_wp2_with (go_at_call 28; refine (rrAdd_any _ _ _ _ (by omega) (by omega) (by omega)).mono ?_; rintro e w' ⟨⟨r2, rfl, hr2, hr3⟩, hw⟩; rw [hw]; clear hw w')
    go_loopg [19, 22] ns (fun g v i wr => ∃ (k : Nat) (r : Int), k ≤ ns ∧ g = ns - k ∧ i = .int .i64 k ∧ v = .int .i64 r ∧ 0 ≤ r ∧ r ≤ 268435456 ∧ wr = w)
    case atStart => exact ⟨0, r2, Nat.zero_le _, rfl, rfl, rfl, hr2, hr3, rfl⟩
    case round =>
      clear hr2 hr3
      obtain ⟨k, r, hk, hg, rfl, rfl, hr0, hr1, hw⟩ := hrel
      rw [hw]
      clear hw
      by_cases hlt : k < ns
      · by_cases hle : r ≤ 1048576
        · obtain ⟨⟨b, off, he, hc⟩, hok, hv⟩ := HS.out k hlt
          cases he
          obtain ⟨c0, c1⟩ := hc
          have HT := hid1 (fun t (h : 0 ≤ t) => tokSize_any (S k).v (S k).T t w hv h hok.le)
          unfold Hd.val at c1 HT
          clear hv hok
          go_wp2_with (first
            | (go_at_call 28; refine (rrAdd_any _ _ _ _ (by omega) (by omega) (by omega)).mono ?_; rintro e w' ⟨⟨r3, rfl, hr4, hr5⟩, hw⟩; rw [hw]; clear hw w')
            | (go_at_call 27; refine (HT.out _ (by omega)).mono ?_; rintro e w' ⟨⟨r3, rfl, hr4, hr5⟩, hw⟩; rw [hw]; clear hw w'))
          go_roundg (ns - (k + 1))
          case measure => omega
          case rel => exact ⟨k + 1, r3, by omega, rfl, by go_num, rfl, hr4, hr5, rfl⟩
        · have d : decide (r ≤ 1048576) = false := decide_eq_false hle
          go_wp2
          go_ret
          exact ⟨⟨r, rfl, hr0, hr1⟩, rfl⟩
      · have d : decide ((k : Int) < (ns : Int)) = false := decide_eq_false (by omega)
        go_wp2
        go_ret
        exact ⟨⟨r, rfl, hr0, hr1⟩, rfl⟩
end Go.Proofs.Qxb6603997a
