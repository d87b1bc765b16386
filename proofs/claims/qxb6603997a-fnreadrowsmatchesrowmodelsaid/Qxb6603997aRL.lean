import Derived.Test.Qxb6603997aRK
namespace Go.Proofs.Qxb6603997a
open Go.RowKit

/-- zzBytes says yes only where every length is within bounds. -/
def ZAns (P : Prop) (e : Ending) : Prop := ∃ b : Bool, e = .returned (.bool b) ∧ (b = true → P)
def RowsLe (h : Hd) (R : Nat → RowD) : Prop := ∀ k, k < h.n → (R k).v.n ≤ 1048576 ∧ ∀ j, j < (R k).v.n → ((R k).H j).n ≤ 1048576
def SetLe (h : Hd) (S : Nat → SetD) : Prop := ∀ k, k < h.n → (S k).v.n ≤ 1048576
def Bounds (ht hd hc hr hs hu hx : Hd) (R : Nat → RowD) (S : Nat → SetD) : Prop :=
  ht.n ≤ 1048576 ∧ hd.n ≤ 1048576 ∧ hc.n ≤ 1048576 ∧ hr.n ≤ 1048576 ∧ hs.n ≤ 1048576 ∧ hu.n ≤ 1048576 ∧ hx.n ≤ 1048576 ∧ RowsLe hr R ∧ SetLe hs S

set_option maxRecDepth 100000 in
set_option maxHeartbeats 4000000 in
theorem zzBytes8_any (ht hd hc hr hs hu hx : Hd) (T : Nat → Tok) (C U X : Nat → ByteArray) (R : Nat → RowD) (S : Nat → SetD) (i : Int) (sc nm : ByteArray) (w : World)
    (at_ : ToksAt w ht T) (ac : StrsAt w hc C) (au : StrsAt w hu U) (ax : StrsAt w hx X) (ar : RowsAt w hr R) (as_ : SetAt w hs S) :
    Calls Try.prog 8 #[ht.val, hd.val, .int .i64 i, .string sc, .string nm, hc.val, hr.val, hs.val, hu.val, hx.val] w fun e w' => ZAns (Bounds ht hd hc hr hs hu hx R S) e ∧ w' = w := by
  obtain ⟨P, hP⟩ : ∃ P, P = Bounds ht hd hc hr hs hu hx R S := ⟨_, rfl⟩
  rw [← hP]
  have HP : Hid (P = Bounds ht hd hc hr hs hu hx R S) := hP
  have HNO : Hid (ZAns P (.returned (.bool false))) := ⟨_, rfl, fun h => by cases h⟩
  have HYES : Hid (P → ZAns P (.returned (.bool true))) := fun h => ⟨_, rfl, fun _ => h⟩
  have HT : Hid (ToksAt w ht T) := at_
  have HC : Hid (StrsAt w hc C) := ac
  have HU : Hid (StrsAt w hu U) := au
  have HX : Hid (StrsAt w hx X) := ax
  have HR : Hid (RowsAt w hr R) := ar
  have HS : Hid (SetAt w hs S) := as_
  clear at_ ac au ax ar as_ hP
  obtain ⟨at_, nt, ct⟩ := ht
  obtain ⟨ad, nd, cd⟩ := hd
  obtain ⟨ac, nc, cc⟩ := hc
  obtain ⟨ar, nr, cr⟩ := hr
  obtain ⟨as_, ns, cs⟩ := hs
  obtain ⟨au, nu, cu⟩ := hu
  obtain ⟨ax, nx, cx⟩ := hx
  unfold Hd.val
  go_enter Try.func8, Try.ntmps8
  go_upto_block 0 with fail
  all_goals (try (go_ret; exact ⟨HNO.out, rfl⟩))
  go_cut [21, 22] (fun v _ wx => ∃ z : Int, v = .int .i64 z ∧ 0 ≤ z ∧ z ≤ 1048576 ∧ wx = w)
  case first =>
    as_aux_lemma =>
      go_wp2_with fail
      go_loopg [21, 22] nt (fun g v i wr => ∃ (k : Nat) (z : Int), k ≤ nt ∧ g = nt - k ∧ i = .int .i64 k ∧ v = .int .i64 z ∧ 0 ≤ z ∧ z ≤ 1048576 ∧ wr = w)
      case atStart => exact ⟨0, _, Nat.zero_le _, rfl, rfl, rfl, by omega, by omega, rfl⟩
      case round =>
        obtain ⟨k, z, hk, hg, rfl, rfl, hz0, hz1, hw⟩ := hrel
        rw [hw]
        clear hw
        by_cases hlt : k < nt
        · obtain ⟨b, off, he, hc⟩ := HT.out k hlt
          cases he
          have c1 := hc.c1
          clear hc
          generalize (T k).text = tx at *
          go_wp2
          all_goals (try (go_ret; exact ⟨HNO.out, rfl⟩))
          go_roundg (nt - (k + 1))
          case measure => omega
          case rel => exact ⟨k + 1, _, by omega, rfl, by go_num, rfl, by omega, by omega, rfl⟩
        · have d : decide ((k : Int) < (nt : Int)) = false := decide_eq_false (by omega)
          go_wp2
          go_meet
          exact ⟨z, rfl, hz0, hz1, rfl⟩
  case rest =>
    obtain ⟨za, rfl, hza0, hza1, hw⟩ := hcut
    rw [hw]
    clear hw
    go_upto_block 2 with fail
    all_goals (try (go_ret; exact ⟨HNO.out, rfl⟩))
    go_cut [21, 23] (fun v _ wx => ∃ z : Int, v = .int .i64 z ∧ 0 ≤ z ∧ z ≤ 1048576 ∧ wx = w)
    case first =>
      as_aux_lemma =>
        go_wp2_with fail
        go_loopg [21, 23] nc (fun g v i wr => ∃ (k : Nat) (z : Int), k ≤ nc ∧ g = nc - k ∧ i = .int .i64 k ∧ v = .int .i64 z ∧ 0 ≤ z ∧ z ≤ 1048576 ∧ wr = w)
        case atStart => exact ⟨0, _, Nat.zero_le _, rfl, rfl, rfl, by omega, by omega, rfl⟩
        case round =>
          obtain ⟨k, z, hk, hg, rfl, rfl, hz0, hz1, hw⟩ := hrel
          rw [hw]
          clear hw
          by_cases hlt : k < nc
          · obtain ⟨b, off, he, hc⟩ := HC.out k hlt
            cases he
            rw [Nat.mul_one] at hc
            generalize C k = tx at *
            go_wp2
            all_goals (try (go_ret; exact ⟨HNO.out, rfl⟩))
            go_roundg (nc - (k + 1))
            case measure => omega
            case rel => exact ⟨k + 1, _, by omega, rfl, by go_num, rfl, by omega, by omega, rfl⟩
          · have d : decide ((k : Int) < (nc : Int)) = false := decide_eq_false (by omega)
            go_wp2
            go_meet
            exact ⟨z, rfl, hz0, hz1, rfl⟩
    case rest =>
      obtain ⟨zb, rfl, hzb0, hzb1, hw⟩ := hcut
      rw [hw]
      clear hw
      go_upto_block 4 with fail
      all_goals (try (go_ret; exact ⟨HNO.out, rfl⟩))
      go_cut [21, 24, 25, 26] (fun v _ _ _ wx => ∃ z : Int, v = .int .i64 z ∧ 0 ≤ z ∧ z ≤ 1048576 ∧ Hid (RowsLe ⟨ar, nr, cr⟩ R) ∧ wx = w)
      case first =>
        as_aux_lemma =>
          go_wp2_with fail
          go_loopg [21, 24] nr (fun g v i wr => ∃ (k : Nat) (z : Int), k ≤ nr ∧ g = nr - k ∧ i = .int .i64 k ∧ v = .int .i64 z ∧ 0 ≤ z ∧ z ≤ 1048576 ∧ Hid (∀ j, j < k → (R j).v.n ≤ 1048576 ∧ ∀ q, q < (R j).v.n → ((R j).H q).n ≤ 1048576) ∧ wr = w)
          case atStart => exact ⟨0, _, Nat.zero_le _, rfl, rfl, rfl, by omega, by omega, fun j hj => absurd hj (Nat.not_lt_zero _), rfl⟩
          case round =>
            obtain ⟨k, z, hk, hg, rfl, rfl, hz0, hz1, HLE, hw⟩ := hrel
            rw [hw]
            clear hw
            by_cases hlt : k < nr
            · obtain ⟨⟨b, off, he, hc⟩, -, hv⟩ := HR.out k hlt
              cases he
              have c2 := hc.c2
              have HV : Hid (ValsAt w (R k).v (R k).H (R k).T) := hv
              clear hc hv
              obtain ⟨⟨av, nv, cv⟩, hRv⟩ : ∃ x, x = (R k).v := ⟨_, rfl⟩
              have HRV : Hid (nv = (R k).v.n) := by rw [← hRv]; rfl
              rw [← hRv] at c2 HV
              unfold Hd.val at c2
              clear hRv
              go_wp2_with fail
              all_goals (try (go_ret; exact ⟨HNO.out, rfl⟩))
              go_loopg [21, 25] nv (fun g v i wr => ∃ (j : Nat) (z : Int), j ≤ nv ∧ g = nv - j ∧ i = .int .i64 j ∧ v = .int .i64 z ∧ 0 ≤ z ∧ z ≤ 1048576 ∧ Hid (∀ q, q < j → ((R k).H q).n ≤ 1048576) ∧ wr = w)
              case atStart => exact ⟨0, _, Nat.zero_le _, rfl, rfl, rfl, by omega, by omega, fun j hj => absurd hj (Nat.not_lt_zero _), rfl⟩
              case round =>
                obtain ⟨j, z2, hj, hgj, rfl, rfl, hz2, hz3, HLJ, hw⟩ := hrel
                rw [hw]
                clear hw
                by_cases hltj : j < nv
                · obtain ⟨⟨b2, off2, he2, hc2⟩, -, hv2⟩ := HV.out j hltj
                  cases he2
                  rw [Nat.mul_one] at hc2
                  obtain ⟨TJ, hTJ⟩ : ∃ x, x = (R k).T j := ⟨_, rfl⟩
                  obtain ⟨⟨aj, nj, cj⟩, hHj⟩ : ∃ x, x = (R k).H j := ⟨_, rfl⟩
                  have HJN : Hid (nj = ((R k).H j).n) := by rw [← hHj]; rfl
                  rw [← hHj] at hc2 hv2
                  rw [← hTJ] at hv2
                  have HJ : Hid (ToksAt w ⟨aj, nj, cj⟩ TJ) := hv2
                  unfold Hd.val at hc2
                  clear hv2 hHj hTJ
                  go_wp2_with fail
                  all_goals (try (go_ret; exact ⟨HNO.out, rfl⟩))
                  have HLJ2 : Hid (∀ q, q < j + 1 → ((R k).H q).n ≤ 1048576) := fun q hq => by
                    by_cases e : q = j
                    · subst e; rw [← HJN.out]; omega
                    · exact HLJ.out q (by omega)
                  go_loopg [21, 26] nj (fun g v i wr => ∃ (k : Nat) (z : Int), k ≤ nj ∧ g = nj - k ∧ i = .int .i64 k ∧ v = .int .i64 z ∧ 0 ≤ z ∧ z ≤ 1048576 ∧ wr = w)
                  case atStart => exact ⟨0, _, Nat.zero_le _, rfl, rfl, rfl, by omega, by omega, rfl⟩
                  case round =>
                    obtain ⟨q, y, hq, hgq, rfl, rfl, hy0, hy1, hw⟩ := hrel
                    rw [hw]
                    clear hw
                    by_cases hltq : q < nj
                    · obtain ⟨bq, offq, heq, hcq⟩ := HJ.out q hltq
                      cases heq
                      have e1 := hcq.c1
                      clear hcq
                      generalize (TJ q).text = tx at *
                      go_wp2
                      all_goals (try (go_ret; exact ⟨HNO.out, rfl⟩))
                      go_roundg (nj - (q + 1))
                      case measure => omega
                      case rel => exact ⟨q + 1, _, by omega, rfl, by go_num, rfl, by omega, by omega, rfl⟩
                    · have dq : decide ((q : Int) < (nj : Int)) = false := decide_eq_false (by omega)
                      go_wp2
                      go_roundg (nv - (j + 1))
                      case measure => omega
                      case rel => exact ⟨j + 1, y, by omega, rfl, by go_num, rfl, hy0, hy1, HLJ2.out, rfl⟩

                · have dj : decide ((j : Int) < (nv : Int)) = false := decide_eq_false (by omega)
                  have HLE2 : Hid (∀ j, j < k + 1 → (R j).v.n ≤ 1048576 ∧ ∀ q, q < (R j).v.n → ((R j).H q).n ≤ 1048576) := fun i hi => by
                    by_cases e : i = k
                    · subst e
                      exact ⟨by rw [← HRV.out]; omega, fun q hq => HLJ.out q (by have := HRV.out; omega)⟩
                    · exact HLE.out i (by omega)
                  go_wp2
                  go_roundg (nr - (k + 1))
                  case measure => omega
                  case rel => exact ⟨k + 1, z2, by omega, rfl, by go_num, rfl, hz2, hz3, HLE2.out, rfl⟩
            · have d : decide ((k : Int) < (nr : Int)) = false := decide_eq_false (by omega)
              have HFIN : Hid (RowsLe ⟨ar, nr, cr⟩ R) := fun j hj => HLE.out j (by have : j < nr := hj; omega)
              go_wp2
              go_meet
              exact ⟨z, rfl, hz0, hz1, HFIN.out, rfl⟩
      case rest =>
        obtain ⟨zc, rfl, hzc0, hzc1, HRL, hw⟩ := hcut
        rw [hw]
        clear hw
        go_upto_block 10 with fail
        all_goals (try (go_ret; exact ⟨HNO.out, rfl⟩))
        go_cut [21, 27, 28] (fun v _ _ wx => ∃ z : Int, v = .int .i64 z ∧ 0 ≤ z ∧ z ≤ 1048576 ∧ Hid (SetLe ⟨as_, ns, cs⟩ S) ∧ wx = w)
        case first =>
          as_aux_lemma =>
            go_wp2_with fail
            go_loopg [21, 27] ns (fun g v i wr => ∃ (k : Nat) (z : Int), k ≤ ns ∧ g = ns - k ∧ i = .int .i64 k ∧ v = .int .i64 z ∧ 0 ≤ z ∧ z ≤ 1048576 ∧ Hid (∀ j, j < k → (S j).v.n ≤ 1048576) ∧ wr = w)
            case atStart => exact ⟨0, _, Nat.zero_le _, rfl, rfl, rfl, by omega, by omega, fun j hj => absurd hj (Nat.not_lt_zero _), rfl⟩
            case round =>
              obtain ⟨k, z, hk, hg, rfl, rfl, hz0, hz1, HLE, hw⟩ := hrel
              rw [hw]
              clear hw
              by_cases hlt : k < ns
              · obtain ⟨⟨b, off, he, hc⟩, -, hv⟩ := HS.out k hlt
                cases he
                obtain ⟨c0, c1⟩ := hc
                obtain ⟨TJ, hTJ⟩ : ∃ x, x = (S k).T := ⟨_, rfl⟩
                obtain ⟨⟨aj, nj, cj⟩, hHj⟩ : ∃ x, x = (S k).v := ⟨_, rfl⟩
                have HJN : Hid (nj = (S k).v.n) := by rw [← hHj]; rfl
                rw [← hHj] at c1 hv
                rw [← hTJ] at hv
                have HJ : Hid (ToksAt w ⟨aj, nj, cj⟩ TJ) := hv
                unfold Hd.val at c1
                clear hv hHj hTJ
                generalize (S k).s = cs_ at *
                go_wp2_with fail
                all_goals (try (go_ret; exact ⟨HNO.out, rfl⟩))
                have HLE2 : Hid (∀ j, j < k + 1 → (S j).v.n ≤ 1048576) := fun i hi => by
                  by_cases e : i = k
                  · subst e; rw [← HJN.out]; omega
                  · exact HLE.out i (by omega)
                go_loopg [21, 28] nj (fun g v i wr => ∃ (k : Nat) (z : Int), k ≤ nj ∧ g = nj - k ∧ i = .int .i64 k ∧ v = .int .i64 z ∧ 0 ≤ z ∧ z ≤ 1048576 ∧ wr = w)
                case atStart => exact ⟨0, _, Nat.zero_le _, rfl, rfl, rfl, by omega, by omega, rfl⟩
                case round =>
                  obtain ⟨q, y, hq, hgq, rfl, rfl, hy0, hy1, hw⟩ := hrel
                  rw [hw]
                  clear hw
                  by_cases hltq : q < nj
                  · obtain ⟨bq, offq, heq, hcq⟩ := HJ.out q hltq
                    cases heq
                    have e1 := hcq.c1
                    clear hcq
                    generalize (TJ q).text = tx at *
                    go_wp2
                    all_goals (try (go_ret; exact ⟨HNO.out, rfl⟩))
                    go_roundg (nj - (q + 1))
                    case measure => omega
                    case rel => exact ⟨q + 1, _, by omega, rfl, by go_num, rfl, by omega, by omega, rfl⟩
                  · have dq : decide ((q : Int) < (nj : Int)) = false := decide_eq_false (by omega)
                    go_wp2
                    go_roundg (ns - (k + 1))
                    case measure => omega
                    case rel => exact ⟨k + 1, y, by omega, rfl, by go_num, rfl, hy0, hy1, HLE2.out, rfl⟩

              · have d : decide ((k : Int) < (ns : Int)) = false := decide_eq_false (by omega)
                have HFIN : Hid (SetLe ⟨as_, ns, cs⟩ S) := fun j hj => HLE.out j (by have : j < ns := hj; omega)
                go_wp2
                go_meet
                exact ⟨z, rfl, hz0, hz1, HFIN.out, rfl⟩
        case rest =>
          obtain ⟨zd, rfl, hzd0, hzd1, HSL, hw⟩ := hcut
          rw [hw]
          clear hw
          go_upto_block 14 with fail
          all_goals (try (go_ret; exact ⟨HNO.out, rfl⟩))
          go_cut [21, 29] (fun v _ wx => ∃ z : Int, v = .int .i64 z ∧ 0 ≤ z ∧ z ≤ 1048576 ∧ wx = w)
          case first =>
            as_aux_lemma =>
              go_wp2_with fail
              go_loopg [21, 29] nu (fun g v i wr => ∃ (k : Nat) (z : Int), k ≤ nu ∧ g = nu - k ∧ i = .int .i64 k ∧ v = .int .i64 z ∧ 0 ≤ z ∧ z ≤ 1048576 ∧ wr = w)
              case atStart => exact ⟨0, _, Nat.zero_le _, rfl, rfl, rfl, by omega, by omega, rfl⟩
              case round =>
                obtain ⟨k, z, hk, hg, rfl, rfl, hz0, hz1, hw⟩ := hrel
                rw [hw]
                clear hw
                by_cases hlt : k < nu
                · obtain ⟨b, off, he, hc⟩ := HU.out k hlt
                  cases he
                  rw [Nat.mul_one] at hc
                  generalize U k = tx at *
                  go_wp2
                  all_goals (try (go_ret; exact ⟨HNO.out, rfl⟩))
                  go_roundg (nu - (k + 1))
                  case measure => omega
                  case rel => exact ⟨k + 1, _, by omega, rfl, by go_num, rfl, by omega, by omega, rfl⟩
                · have d : decide ((k : Int) < (nu : Int)) = false := decide_eq_false (by omega)
                  go_wp2
                  go_meet
                  exact ⟨z, rfl, hz0, hz1, rfl⟩
          case rest =>
            obtain ⟨ze, rfl, hze0, hze1, hw⟩ := hcut
            rw [hw]
            clear hw
            go_upto_block 16 with fail
            all_goals (try (go_ret; exact ⟨HNO.out, rfl⟩))
            go_cut [21, 30] (fun v _ wx => ∃ z : Int, v = .int .i64 z ∧ 0 ≤ z ∧ z ≤ 1048576 ∧ wx = w)
            case first =>
              as_aux_lemma =>
                go_wp2_with fail
                go_loopg [21, 30] nx (fun g v i wr => ∃ (k : Nat) (z : Int), k ≤ nx ∧ g = nx - k ∧ i = .int .i64 k ∧ v = .int .i64 z ∧ 0 ≤ z ∧ z ≤ 1048576 ∧ wr = w)
                case atStart => exact ⟨0, _, Nat.zero_le _, rfl, rfl, rfl, by omega, by omega, rfl⟩
                case round =>
                  obtain ⟨k, z, hk, hg, rfl, rfl, hz0, hz1, hw⟩ := hrel
                  rw [hw]
                  clear hw
                  by_cases hlt : k < nx
                  · obtain ⟨b, off, he, hc⟩ := HX.out k hlt
                    cases he
                    rw [Nat.mul_one] at hc
                    generalize X k = tx at *
                    go_wp2
                    all_goals (try (go_ret; exact ⟨HNO.out, rfl⟩))
                    go_roundg (nx - (k + 1))
                    case measure => omega
                    case rel => exact ⟨k + 1, _, by omega, rfl, by go_num, rfl, by omega, by omega, rfl⟩
                  · have d : decide ((k : Int) < (nx : Int)) = false := decide_eq_false (by omega)
                    go_wp2
                    go_meet
                    exact ⟨z, rfl, hz0, hz1, rfl⟩
            case rest =>
              obtain ⟨zf, rfl, hzf0, hzf1, hw⟩ := hcut
              rw [hw]
              clear hw
              go_wp2
              all_goals (try (go_ret; exact ⟨HNO.out, rfl⟩))
              go_ret
              refine ⟨HYES.out ?_, rfl⟩
              rw [HP.out]
              exact ⟨by show nt ≤ _; omega, by show nd ≤ _; omega, by show nc ≤ _; omega, by show nr ≤ _; omega, by show ns ≤ _; omega, by show nu ≤ _; omega, by show nx ≤ _; omega, HRL.out, HSL.out⟩
end Go.Proofs.Qxb6603997a
