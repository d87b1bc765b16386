import Derived.Test.Qxb6603997aRE
import Derived.Deep.RegionWith
namespace Go.Proofs.Qxb6603997a
open Go.RowKit

theorem hid3 {p : Prop} (h : p) : Hid p := h
def opn (T : Nat → Tok) (k : Nat) : Bool := isP (T k) ⟨#[40]⟩
def cls (T : Nat → Tok) (k : Nat) : Bool := isP (T k) ⟨#[41]⟩
def cma (T : Nat → Tok) (k : Nat) : Bool := isP (T k) ⟨#[44]⟩

/-- What closing answers: m tokens are to come, d are open, k is the next. -/
def cl (T : Nat → Tok) : Nat → Int → Nat → Int
  | 0, _, _ => -1
  | m + 1, d, k => if opn T k then cl T m (d + 1) (k + 1) else if cls T k then (if d - 1 = 0 then (k : Int) else cl T m (d - 1) (k + 1)) else cl T m d (k + 1)

set_option maxHeartbeats 1000000 in
theorem closing_any (h : Hd) (T : Nat → Tok) (i : Nat) (w : World) (ht : ToksAt w h T) (hn : h.n ≤ 1048576) (hi : i ≤ h.n) :
    Calls Try.prog 43 #[h.val, .int .i64 i] w fun e w' => e = .returned (.int .i64 (cl T (h.n - i) 0 i)) ∧ Below w.heap.size w w' := by
  obtain ⟨a, n, cap⟩ := h
  have HT : Hid (ToksAt w ⟨a, n, cap⟩ T) := ht
  simp only at hn hi
  obtain ⟨res, hres⟩ : ∃ res, res = cl T (n - i) 0 i := ⟨_, rfl⟩
  show Calls Try.prog 43 #[.slice a n cap, .int .i64 i] w fun e w' => e = .returned (.int .i64 (cl T (n - i) 0 i)) ∧ Below w.heap.size w w'
  rw [← hres]
  have HRES : Hid (res = cl T (n - i) 0 i) := hres
  clear ht hres
  go_enter Try.func43, Try.ntmps43
  go_wp2
  go_loopg [5, 6] (n - i) (fun g v5 v6 wr => ∃ (k : Nat) (d : Int), i ≤ k ∧ k ≤ n ∧ g = n - k ∧ v5 = .int .i64 d ∧ v6 = .int .i64 k ∧ -(k : Int) ≤ d ∧ d ≤ k ∧ Hid (cl T (n - k) d k = res) ∧ Below w.heap.size w wr)
  case atStart => exact ⟨i, 0, Nat.le_refl _, hi, rfl, rfl, rfl, by omega, by omega, by unfold Hid; rw [HRES.out], Below.refl _ _⟩
  case round =>
    obtain ⟨k, d, hik, hk, hg, rfl, rfl, hd0, hd1, HK, hbel⟩ := hrel
    by_cases hlt : k < n
    · obtain ⟨b, off, he, hc⟩ := HT.out k hlt
      cases he
      have QB : Hid (TokAt wr b (off + k * 5) (T k)) := hc.below hbel
      obtain ⟨c0, c1, c2, c3, c4⟩ := hc.below hbel
      clear hc
      have HST : Hid (cl T (n - k) d k = if opn T k then cl T (n - (k + 1)) (d + 1) (k + 1) else if cls T k then (if d - 1 = 0 then (k : Int) else cl T (n - (k + 1)) (d - 1) (k + 1)) else cl T (n - (k + 1)) d (k + 1)) := by
        unfold Hid
        rw [show n - k = (n - (k + 1)) + 1 by omega]
        rfl
      have P1 := hid3 (isPunct_any (T k) ⟨#[40]⟩ wr)
      have P2 := hid3 (fun w2 => isPunct_any (T k) ⟨#[41]⟩ w2)
      rcases Bool.eq_false_or_eq_true (opn T k) with ho | ho
      · have HN : Hid (cl T (n - (k + 1)) (d + 1) (k + 1) = res) := by
          have h1 := HK.out
          rw [HST.out, if_pos ho] at h1
          exact h1
        have ho' : isP (T k) ⟨#[40]⟩ = true := ho
        unfold Tok.val at P1 P2
        rw [ho'] at P1
        clear ho ho'
        go_wp2_with (go_at_call 42; refine P1.out.mono ?_; rintro e w2 ⟨rfl, hb2⟩)
        go_roundg (n - (k + 1))
        case measure => omega
        case rel => exact ⟨k + 1, d + 1, by omega, by omega, rfl, rfl, by go_num, by omega, by omega, HN.out, hbel.trans (hb2.mono hbel.size)⟩
      · have ho' : isP (T k) ⟨#[40]⟩ = false := ho
        rcases Bool.eq_false_or_eq_true (cls T k) with hq | hq
        · have hq' : isP (T k) ⟨#[41]⟩ = true := hq
          by_cases hd : d - 1 = 0
          · have HN : Hid ((k : Int) = res) := by
              have h1 := HK.out
              rw [HST.out, if_neg (by simp [ho]), if_pos hq, if_pos hd] at h1
              exact h1
            have b0 : (d - 1 == 0) = true := beq_iff_eq.2 hd
            unfold Tok.val at P1 P2
            rw [ho'] at P1
            rw [hq'] at P2
            clear ho ho' hq hq' hd
            go_wp2_with (first
              | (go_at_call_of 42 (ByteArray.mk #[40]); refine P1.out.mono ?_; rintro e w2 ⟨rfl, hb2⟩; obtain ⟨x0, x1, x2, x3, x4⟩ := QB.out.below hb2)
              | (go_at_call_of 42 (ByteArray.mk #[41]); refine (P2.out _).mono ?_; rintro e w3 ⟨rfl, hb3⟩))
            go_ret
            exact ⟨by rw [← HN.out]; rfl, (hbel.trans (hb2.mono hbel.size)).trans (hb3.mono (Nat.le_trans hbel.size hb2.size))⟩
          · have HN : Hid (cl T (n - (k + 1)) (d - 1) (k + 1) = res) := by
              have h1 := HK.out
              rw [HST.out, if_neg (by simp [ho]), if_pos hq, if_neg hd] at h1
              exact h1
            have b0 : (d - 1 == 0) = false := beq_eq_false_iff_ne.2 hd
            unfold Tok.val at P1 P2
            rw [ho'] at P1
            rw [hq'] at P2
            clear ho ho' hq hq' hd
            go_wp2_with (first
              | (go_at_call_of 42 (ByteArray.mk #[40]); refine P1.out.mono ?_; rintro e w2 ⟨rfl, hb2⟩; obtain ⟨x0, x1, x2, x3, x4⟩ := QB.out.below hb2)
              | (go_at_call_of 42 (ByteArray.mk #[41]); refine (P2.out _).mono ?_; rintro e w3 ⟨rfl, hb3⟩))
            go_roundg (n - (k + 1))
            case measure => omega
            case rel => exact ⟨k + 1, d - 1, by omega, by omega, rfl, rfl, by go_num, by omega, by omega, HN.out, (hbel.trans (hb2.mono hbel.size)).trans (hb3.mono (Nat.le_trans hbel.size hb2.size))⟩
        · have hq' : isP (T k) ⟨#[41]⟩ = false := hq
          have HN : Hid (cl T (n - (k + 1)) d (k + 1) = res) := by
            have h1 := HK.out
            rw [HST.out, if_neg (by simp [ho]), if_neg (by simp [hq])] at h1
            exact h1
          unfold Tok.val at P1 P2
          rw [ho'] at P1
          rw [hq'] at P2
          clear ho ho' hq hq'
          go_wp2_with (first
            | (go_at_call_of 42 (ByteArray.mk #[40]); refine P1.out.mono ?_; rintro e w2 ⟨rfl, hb2⟩; obtain ⟨x0, x1, x2, x3, x4⟩ := QB.out.below hb2)
            | (go_at_call_of 42 (ByteArray.mk #[41]); refine (P2.out _).mono ?_; rintro e w3 ⟨rfl, hb3⟩))
          go_roundg (n - (k + 1))
          case measure => omega
          case rel => exact ⟨k + 1, d, by omega, by omega, rfl, rfl, by go_num, by omega, by omega, HN.out, (hbel.trans (hb2.mono hbel.size)).trans (hb3.mono (Nat.le_trans hbel.size hb2.size))⟩
    · have d' : decide ((k : Int) < (n : Int)) = false := decide_eq_false (by omega)
      have HN : Hid (-1 = res) := by
        have h1 := HK.out
        rw [show n - k = 0 by omega] at h1
        exact h1
      go_wp2
      go_ret
      exact ⟨by rw [← HN.out]; rfl, hbel⟩
end Go.Proofs.Qxb6603997a
