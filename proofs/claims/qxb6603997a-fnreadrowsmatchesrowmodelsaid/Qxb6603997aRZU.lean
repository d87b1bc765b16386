import Derived.Test.Qxb6603997aRZT
namespace Go.Proofs.Qxb6603997a
open Go.RowKit

/-- What readRows answers. -/
def RdAns (w w' : World) (bi m : Nat) (T : Nat → Tok) (I : Nat → Int) (R0 : Nat → RowD) (v0 : Value) (r : Nat) (ps : List (Nat × Nat)) (e : Ending) : Prop :=
  e = .returned (.int .i64 (r : Int)) ∧ ∃ own v R, RdSt w w' bi m T I R0 v0 ps own v R

set_option maxRecDepth 100000 in
set_option maxHeartbeats 4000000 in
theorem readRows_any (h hd : Hd) (T : Nat → Tok) (I : Nat → Int) (i bi m : Nat) (R0 : Nat → RowD) (v0 : Value) (own0 : Option Nat) (w0 w : World) (ht : ToksAt w0 h T) (hi : IntsAt w0 hd I) (hn : h.n ≤ 1048576) (hm : m ≤ 1048576)
    (hok : h.n ≤ h.cap ∧ h.cap ≤ maxLen) (hdk : h.n ≤ hd.n ∧ hd.n ≤ hd.cap ∧ hd.cap ≤ maxLen) (hbi0 : bi = w0.heap.size) (hb0 : Below w0.heap.size w0 w) (hbi : bi < w.heap.size) (hst : RdSt w w bi m T I R0 v0 [] own0 v0 R0) :
    Calls Try.prog 33 #[.pointer (some ⟨bi, 0, none⟩), h.val, hd.val, .int .i64 i] w fun e w' => RdAns w w' bi m T I R0 v0 (rd T h.n (h.n + 1) i).1 (rd T h.n (h.n + 1) i).2 e := by
  obtain ⟨a, n, cap⟩ := h
  obtain ⟨ad, nd, cd⟩ := hd
  have HT : Hid (ToksAt w0 ⟨a, n, cap⟩ T) := ht
  have HI : Hid (IntsAt w0 ⟨ad, nd, cd⟩ I) := hi
  have HB0 : Hid (∀ wx own v R acc, RdSt w wx bi m T I R0 v0 acc own v R → Below w0.heap.size w0 wx) := by
    intro wx own v R acc hs
    exact ⟨hs.os.trans hb0.os, hs.tape.trans hb0.tape, hs.output.trans hb0.output, Nat.le_trans hb0.size hs.size, fun j hj => (hs.keep j (by omega) (by omega)).trans (hb0.block j hj)⟩
  have HBI : Hid (bi = w0.heap.size) := hbi0
  simp only at hn hok hdk
  obtain ⟨hnc, hcm⟩ := hok
  obtain ⟨hnd, hdc, hdm⟩ := hdk
  show Calls Try.prog 33 #[.pointer (some ⟨bi, 0, none⟩), .slice a n cap, .slice ad nd cd, .int .i64 i] w fun e w' => RdAns w w' bi m T I R0 v0 (rd T n (n + 1) i).1 (rd T n (n + 1) i).2 e
  obtain ⟨r, hr⟩ : ∃ r, r = (rd T n (n + 1) i).1 := ⟨_, rfl⟩
  obtain ⟨ps, hps⟩ : ∃ ps, ps = (rd T n (n + 1) i).2 := ⟨_, rfl⟩
  have HRD : Hid (rd T n (n + 1) i = (r, ps)) := by unfold Hid; rw [hr, hps]
  rw [← hr, ← hps]
  have HS0 := hid3 hst
  clear ht hi hr hps hst hb0 hbi0
  obtain ⟨i0, hi0, hz0, hz1, hz2⟩ := info_parts Try.info54
  go_enter Try.func33, Try.ntmps33
  go_wp2
  go_loopg [3] (n - i) (fun g v3 wr => ∃ (k f : Nat) (acc rest : List (Nat × Nat)) (own : Option Nat) (v : Value) (R : Nat → RowD), g = n - k ∧ v3 = .int .i64 k ∧ Hid (acc ++ rest = ps ∧ rd T n f k = (r, rest) ∧ n - k ≤ f) ∧ acc.length ≤ k ∧ acc.length ≤ n ∧ Hid (RdSt w wr bi m T I R0 v0 acc own v R))
  case atStart => exact ⟨i, n + 1, [], ps, own0, v0, R0, rfl, rfl, ⟨rfl, HRD.out, by omega⟩, Nat.zero_le _, Nat.zero_le _, HS0.out⟩
  case round =>
    obtain ⟨k, f, acc, rest, own, v, R, hg, rfl, HA, hak, han, HST⟩ := hrel
    clear HS0
    by_cases hlt : k < n
    · obtain ⟨b, off, he, hc0⟩ := HT.out k hlt
      cases he
      have hbb : b ≠ bi := by have := cell_lt hc0.c0; have := HBI.out; omega
      have hbw : b < w.heap.size := by have := cell_lt hc0.c0; have := HBI.out; omega
      have KP : Hid (∀ wx own v R acc, RdSt w wx bi m T I R0 v0 acc own v R → ToksAt wx ⟨some ⟨b, off, none⟩, n, cap⟩ T) := by
        intro wx own v R acc hs
        exact HT.out.below (HB0.out _ _ _ _ _ hs)
      obtain ⟨b', off', he, hc⟩ := KP.out _ _ _ _ _ HST.out k hlt
      cases he
      obtain ⟨c0, c1, c2, c3, c4⟩ := hc
      have P1 := hid3 (isPunct_any (T k) ⟨#[40]⟩ wr)
      have hltI : (k : Int) < (n : Int) := by omega
      rcases Bool.eq_false_or_eq_true (opn T k) with hop | hop
      · have hop' : isP (T k) ⟨#[40]⟩ = true := hop
        unfold Tok.val at P1
        rw [hop'] at P1
        have P2 : Hid (∀ w2, ToksAt w2 ⟨some ⟨b, off, none⟩, n, cap⟩ T → Calls Try.prog 43 #[.slice (some ⟨b, off, none⟩) n cap, .int .i64 k] w2 fun e w' => e = .returned (.int .i64 (cl T (n - k) 0 k)) ∧ Below w2.heap.size w2 w') := fun w2 h => closing_any ⟨some ⟨b, off, none⟩, n, cap⟩ T k w2 h hn (show k ≤ n by omega)
        rcases cl_at hlt hop with hm | ⟨c, hcF, hkc, hcn⟩
        · have HS : Hid (acc = ps ∧ r = n) := by
            obtain ⟨q1, q2, q3⟩ := HA.out
            obtain ⟨f', rfl⟩ : ∃ f', f = f' + 1 := ⟨f - 1, by omega⟩
            rw [rd_open hlt hop hm] at q2
            cases q2
            exact ⟨by simpa using q1, rfl⟩
          rw [hm] at P2
          clear hop hop' hm
          go_wp2_with (first
            | (go_at_call 42; refine P1.out.mono ?_; rintro e w2 ⟨rfl, hb2⟩)
            | (go_at_call 43; refine (P2.out _ (KP.out _ _ _ _ _ (HST.out.below hb2))).mono ?_; rintro e w3 ⟨rfl, hb3⟩))
          go_ret
          obtain ⟨q1, q2⟩ := HS.out
          exact ⟨by rw [q2]; rfl, own, v, R, by rw [← q1]; exact (HST.out.below hb2).below hb3⟩
        · rw [hcF] at P2
          have HC2 : Hid (cl T (n - k) 0 k = c) := hcF
          have hkcI : (k : Int) < (c : Int) := by omega
          have hnc0 : ((c : Int) < 0) = False := by simp
          clear hop' hcF
          go_upto_region 5 with (first
            | (go_at_call 42; refine P1.out.mono ?_; rintro e w2 ⟨rfl, hb2⟩)
            | (go_at_call 43; refine (P2.out _ (KP.out _ _ _ _ _ (HST.out.below hb2))).mono ?_; rintro e w3 ⟨rfl, hb3⟩))
          obtain ⟨b1, off1, he1, -⟩ := HI.out k (show k < nd by omega)
          cases he1
          have S3 := hid3 ((HST.out.below hb2).below hb3)
          clear P1 P2 c0 c1 c2 c3 c4 HST hb2 hb3 w2 hc0
          obtain ⟨av, cv, hv⟩ := S3.out.gro.form
          subst hv
          go_cut [3, 9] (fun v3 v9 wx => v3 = .int .i64 k ∧ v9 = .int .i64 c ∧ ∃ own v R, Hid (RdSt w wx bi m T I R0 v0 (acc ++ [(k, c)]) own v R))
          case first =>
            as_aux_lemma =>
              have q3 := S3.out.cell
              have fz := S3.out.frz
              obtain ⟨b', off', he, hc⟩ := KP.out _ _ _ _ _ S3.out k hlt
              cases he
              have x2 := hc.c2
              obtain ⟨b', off', he, hc⟩ := KP.out _ _ _ _ _ S3.out c hcn
              cases he
              have y3 := hc.c3
              clear hc
              have hbb' : ¬ bi = b := fun e => hbb e.symm
              obtain ⟨k1, hk1⟩ : ∃ k1, k1 = k + 1 := ⟨_, rfl⟩
              have hk1c : k1 ≤ c := by omega
              have hwr : IntKind.i64.wrap ((k : Int) + 1) = (k1 : Int) := by rw [IntKind.wrap_i64]; omega
              have e1 : (k1 : Int) ≤ (c : Int) := by omega
              have e5 : ¬ cap = k1 := by omega
              have e6 : ¬ cd = k1 := by omega
              have HK1 := hid3 hk1
              clear hk1
              have e2 : (c : Int) ≤ (cap : Int) := by omega
              have e3 : (c : Int) ≤ (cd : Int) := by omega
              have e4 : (c : Int) < (n : Int) := by omega
              have hacc : acc.length ≤ 1048576 := by omega
              have HSP : Hid (Calls Try.prog 44 #[.slice (some ⟨b, off + k1 * 5, none⟩) (c - k1) (cap - k1), .slice (some ⟨b1, off1 + k1, none⟩) (c - k1) (cd - k1), .string ⟨#[44]⟩] w3.drew fun e w4 => ∃ V : Hd, e = .returned (.slice V.a V.n V.cap) ∧ Hid (SpAt w3 w4 T I k c b bi V) ∧ w4.cell? ⟨bi, 3, none⟩ = some (.slice av (m + acc.length) cv) ∧ w4.cell? ⟨b, off + k * 5 + 2, none⟩ = some (.int .i64 (T k).pos) ∧ w4.cell? ⟨b, off + c * 5 + 3, none⟩ = some (.int .i64 (T c).stop) ∧ (∀ o, (w4.alloc o).cell? ⟨bi, 3, none⟩ = some (.slice av (m + acc.length) cv))) := by
                rw [HK1.out]
                refine (split_any b off n cap b1 off1 nd cd T I k c w3.drew (KP.out _ _ _ _ _ (S3.out.below ((Below.refl _ w3).drew))) (HI.out.below ((HB0.out _ _ _ _ _ S3.out).drew)) hkc hcn hn hnc hcm hnd).mono ?_
                rintro e w4 ⟨V, rfl, HV, hb4'⟩
                have hb4 : Below w3.heap.size w3 w4 := ((Below.refl _ w3).drew).trans hb4'
                have z3 := cell_b hb4 q3
                exact ⟨V, rfl, ⟨HV.out, hb4⟩, z3, cell_b hb4 x2, cell_b hb4 y3, fun o => (World.cell?_alloc_lt w4 o _ (cell_lt z3)).trans z3⟩
              have HSTEP := hid3 (fun (w4 : World) (V : Hd) (HV : SpAt w3 w4 T I k c b bi V) => fun {ops o a K Q E} => @step_rows ops o a K Q E w w3 w4 bi m k c b cv T I R0 R v0 acc own av V S3.out hbi hbw hbb hm hacc HV)
              clear HK1 KP HB0 HBI HI HT HA S3 HRD hbb hbw hbi hm hacc hkc hcn hn hnc hcm hnd hdc hdm han hak hlt hop HC2 hz0 hz1 hz2 hi0 i0 hk1c
              refine but_region (fun w' => w'.cell? ⟨bi, 3, none⟩ = some (.slice av (m + acc.length) cv) ∧ w'.cell? ⟨b, off + k * 5 + 2, none⟩ = some (.int .i64 (T k).pos) ∧ w'.cell? ⟨b, off + c * 5 + 3, none⟩ = some (.int .i64 (T c).stop)) 31 (by kernel_rfl) ?_
              have hS0 : w3.drew.cell? ⟨bi, 3, none⟩ = some (.slice av (m + acc.length) cv) ∧ w3.drew.cell? ⟨b, off + k * 5 + 2, none⟩ = some (.int .i64 (T k).pos) ∧ w3.drew.cell? ⟨b, off + c * 5 + 3, none⟩ = some (.int .i64 (T c).stop) := ⟨q3, x2, y3⟩
              have HS0 := hid3 hS0
              clear hS0
              refine' but_take (i := 0) (v := .pointer (some ⟨bi, 0, none⟩)) ?hi0 ?hb0 ?hQ0 ?hg0 ?hy0 HS0.out ?more0
              case hi0 => (simp only [List.getElem?_toArray, List.getElem?_cons_zero]; exact rfl)
              case hb0 => kernel_rfl
              case hQ0 => exact fun _ _ _ h => h
              case hg0 => rfl
              case hy0 => (rintro w ⟨s1, s2, s3⟩; go_simp)
              simp only [Act.put, List.setIfInBounds_toArray, List.set_cons_zero, List.set_cons_succ]
              refine' but_take (i := 1) (v := .pointer (some ⟨bi, 0, none⟩)) ?hi1 ?hb1 ?hQ1 ?hg1 ?hy1 HS0.out ?more1
              case hi1 => (simp only [List.getElem?_toArray, List.getElem?_cons_succ, List.getElem?_cons_zero]; exact rfl)
              case hb1 => kernel_rfl
              case hQ1 => exact fun _ _ _ h => h
              case hg1 => rfl
              case hy1 => (rintro w ⟨s1, s2, s3⟩; go_simp)
              simp only [Act.put, List.setIfInBounds_toArray, List.set_cons_zero, List.set_cons_succ]
              refine' but_take (i := 2) (v := .pointer (some ⟨bi, 0, none⟩)) ?hi2 ?hb2 ?hQ2 ?hg2 ?hy2 HS0.out ?more2
              case hi2 => (simp only [List.getElem?_toArray, List.getElem?_cons_succ, List.getElem?_cons_zero]; exact rfl)
              case hb2 => kernel_rfl
              case hQ2 => exact fun _ _ _ h => h
              case hg2 => rfl
              case hy2 => (rintro w ⟨s1, s2, s3⟩; go_simp)
              simp only [Act.put, List.setIfInBounds_toArray, List.set_cons_zero, List.set_cons_succ]
              refine' but_take (i := 3) (v := .pointer (some ⟨bi, 3, none⟩)) ?hi3 ?hb3 ?hQ3 ?hg3 ?hy3 HS0.out ?more3
              case hi3 => (simp only [List.getElem?_toArray, List.getElem?_cons_succ, List.getElem?_cons_zero]; exact rfl)
              case hb3 => kernel_rfl
              case hQ3 => exact fun _ _ _ h => h
              case hg3 => rfl
              case hy3 => (rintro w ⟨s1, s2, s3⟩; go_simp)
              simp only [Act.put, List.setIfInBounds_toArray, List.set_cons_zero, List.set_cons_succ]
              refine' but_take (i := 4) (v := .slice av (m + acc.length) cv) ?hi4 ?hb4 ?hQ4 ?hg4 ?hy4 HS0.out ?more4
              case hi4 => (simp only [List.getElem?_toArray, List.getElem?_cons_succ, List.getElem?_cons_zero]; exact rfl)
              case hb4 => kernel_rfl
              case hQ4 => exact fun _ _ _ h => h
              case hg4 => rfl
              case hy4 => (rintro w ⟨s1, s2, s3⟩; go_simp)
              simp only [Act.put, List.setIfInBounds_toArray, List.set_cons_zero, List.set_cons_succ]
              refine' but_take (i := 5) (v := .slice (some ⟨b, off, none⟩) n cap) ?hi5 ?hb5 ?hQ5 ?hg5 ?hy5 HS0.out ?more5
              case hi5 => (simp only [List.getElem?_toArray, List.getElem?_cons_succ, List.getElem?_cons_zero]; exact rfl)
              case hb5 => kernel_rfl
              case hQ5 => exact fun _ _ _ h => h
              case hg5 => rfl
              case hy5 => (rintro w ⟨s1, s2, s3⟩; go_simp)
              simp only [Act.put, List.setIfInBounds_toArray, List.set_cons_zero, List.set_cons_succ]
              refine' but_take (i := 6) (v := .int .i64 k) ?hi6 ?hb6 ?hQ6 ?hg6 ?hy6 HS0.out ?more6
              case hi6 => (simp only [List.getElem?_toArray, List.getElem?_cons_succ, List.getElem?_cons_zero]; exact rfl)
              case hb6 => kernel_rfl
              case hQ6 => exact fun _ _ _ h => h
              case hg6 => rfl
              case hy6 => (rintro w ⟨s1, s2, s3⟩; go_simp)
              simp only [Act.put, List.setIfInBounds_toArray, List.set_cons_zero, List.set_cons_succ]
              refine' but_take (i := 7) (v := .pointer (some ⟨b, off + k * 5, none⟩)) ?hi7 ?hb7 ?hQ7 ?hg7 ?hy7 HS0.out ?more7
              case hi7 => (simp only [List.getElem?_toArray, List.getElem?_cons_succ, List.getElem?_cons_zero]; exact rfl)
              case hb7 => kernel_rfl
              case hQ7 => exact fun _ _ _ h => h
              case hg7 => rfl
              case hy7 => (rintro w ⟨s1, s2, s3⟩; go_simp)
              simp only [Act.put, List.setIfInBounds_toArray, List.set_cons_zero, List.set_cons_succ]
              refine' but_take (i := 8) (v := .pointer (some ⟨b, off + k * 5 + 2, none⟩)) ?hi8 ?hb8 ?hQ8 ?hg8 ?hy8 HS0.out ?more8
              case hi8 => (simp only [List.getElem?_toArray, List.getElem?_cons_succ, List.getElem?_cons_zero]; exact rfl)
              case hb8 => kernel_rfl
              case hQ8 => exact fun _ _ _ h => h
              case hg8 => rfl
              case hy8 => (rintro w ⟨s1, s2, s3⟩; go_simp)
              simp only [Act.put, List.setIfInBounds_toArray, List.set_cons_zero, List.set_cons_succ]
              refine' but_take (i := 9) (v := .int .i64 (T k).pos) ?hi9 ?hb9 ?hQ9 ?hg9 ?hy9 HS0.out ?more9
              case hi9 => (simp only [List.getElem?_toArray, List.getElem?_cons_succ, List.getElem?_cons_zero]; exact rfl)
              case hb9 => kernel_rfl
              case hQ9 => exact fun _ _ _ h => h
              case hg9 => rfl
              case hy9 => (rintro w ⟨s1, s2, s3⟩; go_simp)
              simp only [Act.put, List.setIfInBounds_toArray, List.set_cons_zero, List.set_cons_succ]
              refine' but_take (i := 10) (v := .slice (some ⟨b, off, none⟩) n cap) ?hi10 ?hb10 ?hQ10 ?hg10 ?hy10 HS0.out ?more10
              case hi10 => (simp only [List.getElem?_toArray, List.getElem?_cons_succ, List.getElem?_cons_zero]; exact rfl)
              case hb10 => kernel_rfl
              case hQ10 => exact fun _ _ _ h => h
              case hg10 => rfl
              case hy10 => (rintro w ⟨s1, s2, s3⟩; go_simp)
              simp only [Act.put, List.setIfInBounds_toArray, List.set_cons_zero, List.set_cons_succ]
              refine' but_take (i := 11) (v := .int .i64 c) ?hi11 ?hb11 ?hQ11 ?hg11 ?hy11 HS0.out ?more11
              case hi11 => (simp only [List.getElem?_toArray, List.getElem?_cons_succ, List.getElem?_cons_zero]; exact rfl)
              case hb11 => kernel_rfl
              case hQ11 => exact fun _ _ _ h => h
              case hg11 => rfl
              case hy11 => (rintro w ⟨s1, s2, s3⟩; go_simp)
              simp only [Act.put, List.setIfInBounds_toArray, List.set_cons_zero, List.set_cons_succ]
              refine' but_take (i := 12) (v := .pointer (some ⟨b, off + c * 5, none⟩)) ?hi12 ?hb12 ?hQ12 ?hg12 ?hy12 HS0.out ?more12
              case hi12 => (simp only [List.getElem?_toArray, List.getElem?_cons_succ, List.getElem?_cons_zero]; exact rfl)
              case hb12 => kernel_rfl
              case hQ12 => exact fun _ _ _ h => h
              case hg12 => rfl
              case hy12 => (rintro w ⟨s1, s2, s3⟩; go_simp)
              simp only [Act.put, List.setIfInBounds_toArray, List.set_cons_zero, List.set_cons_succ]
              refine' but_take (i := 13) (v := .pointer (some ⟨b, off + c * 5 + 3, none⟩)) ?hi13 ?hb13 ?hQ13 ?hg13 ?hy13 HS0.out ?more13
              case hi13 => (simp only [List.getElem?_toArray, List.getElem?_cons_succ, List.getElem?_cons_zero]; exact rfl)
              case hb13 => kernel_rfl
              case hQ13 => exact fun _ _ _ h => h
              case hg13 => rfl
              case hy13 => (rintro w ⟨s1, s2, s3⟩; go_simp)
              simp only [Act.put, List.setIfInBounds_toArray, List.set_cons_zero, List.set_cons_succ]
              refine' but_take (i := 14) (v := .int .i64 (T c).stop) ?hi14 ?hb14 ?hQ14 ?hg14 ?hy14 HS0.out ?more14
              case hi14 => (simp only [List.getElem?_toArray, List.getElem?_cons_succ, List.getElem?_cons_zero]; exact rfl)
              case hb14 => kernel_rfl
              case hQ14 => exact fun _ _ _ h => h
              case hg14 => rfl
              case hy14 => (rintro w ⟨s1, s2, s3⟩; go_simp)
              simp only [Act.put, List.setIfInBounds_toArray, List.set_cons_zero, List.set_cons_succ]
              refine' but_take (i := 15) (v := .slice (some ⟨b, off, none⟩) n cap) ?hi15 ?hb15 ?hQ15 ?hg15 ?hy15 HS0.out ?more15
              case hi15 => (simp only [List.getElem?_toArray, List.getElem?_cons_succ, List.getElem?_cons_zero]; exact rfl)
              case hb15 => kernel_rfl
              case hQ15 => exact fun _ _ _ h => h
              case hg15 => rfl
              case hy15 => (rintro w ⟨s1, s2, s3⟩; go_simp)
              simp only [Act.put, List.setIfInBounds_toArray, List.set_cons_zero, List.set_cons_succ]
              refine' but_take (i := 16) (v := .int .i64 k) ?hi16 ?hb16 ?hQ16 ?hg16 ?hy16 HS0.out ?more16
              case hi16 => (simp only [List.getElem?_toArray, List.getElem?_cons_succ, List.getElem?_cons_zero]; exact rfl)
              case hb16 => kernel_rfl
              case hQ16 => exact fun _ _ _ h => h
              case hg16 => rfl
              case hy16 => (rintro w ⟨s1, s2, s3⟩; go_simp)
              simp only [Act.put, List.setIfInBounds_toArray, List.set_cons_zero, List.set_cons_succ]
              refine' but_take (i := 17) (v := .int .i64 k1) ?hi17 ?hb17 ?hQ17 ?hg17 ?hy17 HS0.out ?more17
              case hi17 => (simp only [List.getElem?_toArray, List.getElem?_cons_succ, List.getElem?_cons_zero]; exact rfl)
              case hb17 => kernel_rfl
              case hQ17 => exact fun _ _ _ h => h
              case hg17 => rfl
              case hy17 => (rintro w ⟨s1, s2, s3⟩; go_simp)
              simp only [Act.put, List.setIfInBounds_toArray, List.set_cons_zero, List.set_cons_succ]
              refine' but_take (i := 18) (v := .int .i64 c) ?hi18 ?hb18 ?hQ18 ?hg18 ?hy18 HS0.out ?more18
              case hi18 => (simp only [List.getElem?_toArray, List.getElem?_cons_succ, List.getElem?_cons_zero]; exact rfl)
              case hb18 => kernel_rfl
              case hQ18 => exact fun _ _ _ h => h
              case hg18 => rfl
              case hy18 => (rintro w ⟨s1, s2, s3⟩; go_simp)
              simp only [Act.put, List.setIfInBounds_toArray, List.set_cons_zero, List.set_cons_succ]
              refine' but_take (i := 19) (v := .slice (some ⟨b, off + k1 * 5, none⟩) (c - k1) (cap - k1)) ?hi19 ?hb19 ?hQ19 ?hg19 ?hy19 HS0.out ?more19
              case hi19 => (simp only [List.getElem?_toArray, List.getElem?_cons_succ, List.getElem?_cons_zero]; exact rfl)
              case hb19 => kernel_rfl
              case hQ19 => exact fun _ _ _ h => h
              case hg19 => rfl
              case hy19 => (rintro w ⟨s1, s2, s3⟩; go_simp)
              simp only [Act.put, List.setIfInBounds_toArray, List.set_cons_zero, List.set_cons_succ]
              refine' but_take (i := 20) (v := .slice (some ⟨b1, off1, none⟩) nd cd) ?hi20 ?hb20 ?hQ20 ?hg20 ?hy20 HS0.out ?more20
              case hi20 => (simp only [List.getElem?_toArray, List.getElem?_cons_succ, List.getElem?_cons_zero]; exact rfl)
              case hb20 => kernel_rfl
              case hQ20 => exact fun _ _ _ h => h
              case hg20 => rfl
              case hy20 => (rintro w ⟨s1, s2, s3⟩; go_simp)
              simp only [Act.put, List.setIfInBounds_toArray, List.set_cons_zero, List.set_cons_succ]
              refine' but_take (i := 21) (v := .int .i64 k) ?hi21 ?hb21 ?hQ21 ?hg21 ?hy21 HS0.out ?more21
              case hi21 => (simp only [List.getElem?_toArray, List.getElem?_cons_succ, List.getElem?_cons_zero]; exact rfl)
              case hb21 => kernel_rfl
              case hQ21 => exact fun _ _ _ h => h
              case hg21 => rfl
              case hy21 => (rintro w ⟨s1, s2, s3⟩; go_simp)
              simp only [Act.put, List.setIfInBounds_toArray, List.set_cons_zero, List.set_cons_succ]
              refine' but_take (i := 22) (v := .int .i64 k1) ?hi22 ?hb22 ?hQ22 ?hg22 ?hy22 HS0.out ?more22
              case hi22 => (simp only [List.getElem?_toArray, List.getElem?_cons_succ, List.getElem?_cons_zero]; exact rfl)
              case hb22 => kernel_rfl
              case hQ22 => exact fun _ _ _ h => h
              case hg22 => rfl
              case hy22 => (rintro w ⟨s1, s2, s3⟩; go_simp)
              simp only [Act.put, List.setIfInBounds_toArray, List.set_cons_zero, List.set_cons_succ]
              refine' but_take (i := 23) (v := .int .i64 c) ?hi23 ?hb23 ?hQ23 ?hg23 ?hy23 HS0.out ?more23
              case hi23 => (simp only [List.getElem?_toArray, List.getElem?_cons_succ, List.getElem?_cons_zero]; exact rfl)
              case hb23 => kernel_rfl
              case hQ23 => exact fun _ _ _ h => h
              case hg23 => rfl
              case hy23 => (rintro w ⟨s1, s2, s3⟩; go_simp)
              simp only [Act.put, List.setIfInBounds_toArray, List.set_cons_zero, List.set_cons_succ]
              refine' but_take (i := 24) (v := .slice (some ⟨b1, off1 + k1, none⟩) (c - k1) (cd - k1)) ?hi24 ?hb24 ?hQ24 ?hg24 ?hy24 HS0.out ?more24
              case hi24 => (simp only [List.getElem?_toArray, List.getElem?_cons_succ, List.getElem?_cons_zero]; exact rfl)
              case hb24 => kernel_rfl
              case hQ24 => exact fun _ _ _ h => h
              case hg24 => rfl
              case hy24 => (rintro w ⟨s1, s2, s3⟩; go_simp)
              simp only [Act.put, List.setIfInBounds_toArray, List.set_cons_zero, List.set_cons_succ]
              refine' but_step (i := 25) ?hi25 ?hr25 ?hk25
              case hi25 => (simp only [List.getElem?_toArray, List.getElem?_cons_succ, List.getElem?_cons_zero]; exact rfl)
              case hr25 => kernel_rfl
              intro K hK
              go_simp
              refine HSP.out.mono ?_
              rintro e w4 ⟨V, rfl, HV, z3, z2, z4, za⟩
              refine hK _ _ (.inr ⟨z3, z2, z4⟩) ?_
              clear hK K
              have HS4 := hid3 (And.intro z3 (And.intro z2 z4))
              try simp only [Act.put, List.setIfInBounds_toArray, List.set_cons_zero, List.set_cons_succ]
              refine' but_take (i := 26) (v := .agg #[.int .i64 (T k).pos, .int .i64 (T c).stop, .slice V.a V.n V.cap]) ?hi26 ?hb26 ?hQ26 ?hg26 ?hy26 HS4.out ?more26
              case hi26 => (simp only [List.getElem?_toArray, List.getElem?_cons_succ, List.getElem?_cons_zero]; exact rfl)
              case hb26 => kernel_rfl
              case hQ26 => exact fun _ _ _ h => h
              case hg26 => rfl
              case hy26 => (rintro w ⟨s1, s2, s3⟩; go_simp)
              simp only [Act.put, List.setIfInBounds_toArray, List.set_cons_zero, List.set_cons_succ]
              refine' but_step (i := 27) ?hi27 ?hr27 ?hk27
              case hi27 => (simp only [List.getElem?_toArray, List.getElem?_cons_succ, List.getElem?_cons_zero]; exact rfl)
              case hr27 => kernel_rfl
              intro K hK
              go_simp
              refine hK _ _ (.inr ⟨za _, (World.cell?_alloc_lt w4 _ _ (cell_lt z2)).trans z2, (World.cell?_alloc_lt w4 _ _ (cell_lt z4)).trans z4⟩) ?_
              clear hK K
              try simp only [Act.put, List.setIfInBounds_toArray, List.set_cons_zero, List.set_cons_succ]
              refine' but_step (i := 28) ?hi28 ?hr28 ?hk28
              case hi28 => (simp only [List.getElem?_toArray, List.getElem?_cons_succ, List.getElem?_cons_zero]; exact rfl)
              case hr28 => kernel_rfl
              intro K hK
              refine HSTEP.out w4 V HV.out rfl rfl (by simp [Act.eval]) (by simp [Act.eval]) ?_
              intro g cp w5 HNX o3 of ok5
              have o4 := ok5 _ _ z2
              have o5 := ok5 _ _ z4
              clear ok5
              refine hK _ _ (.inr ⟨o3, o4, o5⟩) ?_
              clear hK K
              try simp only [Act.put, List.setIfInBounds_toArray, List.set_cons_zero, List.set_cons_succ]
              refine' but_step (i := 29) ?hi29 ?hr29 ?hk29
              case hi29 => (simp only [List.getElem?_toArray, List.getElem?_cons_succ, List.getElem?_cons_zero]; exact rfl)
              case hr29 => kernel_rfl
              intro K hK
              go_simp
              refine hK _ _ (.inr ⟨o3, o4, o5⟩) ?_
              clear hK K
              try simp only [Act.put, List.setIfInBounds_toArray, List.set_cons_zero, List.set_cons_succ]
              refine' but_step (i := 30) ?hi30 ?hr30 ?hk30
              case hi30 => (simp only [List.getElem?_toArray, List.getElem?_cons_succ, List.getElem?_cons_zero]; exact rfl)
              case hr30 => kernel_rfl
              intro K hK
              go_simp
              refine hK _ _ (.inr ⟨o3, o4, o5⟩) ?_
              clear hK K
              try simp only [Act.put, List.setIfInBounds_toArray, List.set_cons_zero, List.set_cons_succ]
              refine' but_step (i := 31) ?hi31 ?hr31 ?hk31
              case hi31 => (simp only [List.getElem?_toArray, List.getElem?_cons_succ, List.getElem?_cons_zero]; exact rfl)
              case hr31 => kernel_rfl
              intro K hK
              go_simp
              refine hK _ _ (.inl rfl) ?_
              clear hK K
              refine but_done (by kernel_rfl) ?_
              all_goals go_wp2
              all_goals
                go_meet
                exact ⟨rfl, rfl, _, _, HNX.out.elim fun R' h => ⟨R', h⟩⟩
          case rest =>
            obtain ⟨rfl, rfl, own', v', R', HST'⟩ := hcut
            have hcnI : (c : Int) < (n : Int) := by omega
            by_cases hcl : c + 1 < n
            · obtain ⟨b2, off2, he2, hc2⟩ := KP.out _ _ _ _ _ HST'.out (c + 1) hcl
              cases he2
              obtain ⟨c0, c1, c2, c3, c4⟩ := hc2
              have hclI : (c : Int) + 1 < (n : Int) := by omega
              have dcl : decide ((c : Int) + 1 ≥ (n : Int)) = false := decide_eq_false (by omega)
              have P2 := hid3 (isPunct_any (T (c + 1)) ⟨#[44]⟩ wc)
              unfold Tok.val at P2
              rcases Bool.eq_false_or_eq_true (cma T (c + 1)) with hcm | hcm
              · have hcm' : isP (T (c + 1)) ⟨#[44]⟩ = true := hcm
                rw [hcm'] at P2
                have HE : Hid (∃ f' rest', acc ++ [(k, c)] ++ rest' = ps ∧ rd T n f' (c + 2) = (r, rest') ∧ n - (c + 2) ≤ f') := by
                  obtain ⟨q1, q2, q3⟩ := HA.out
                  obtain ⟨f', rfl⟩ : ∃ f', f = f' + 1 := ⟨f - 1, by omega⟩
                  rw [rd_more hlt hop HC2.out hcl hcm] at q2
                  refine ⟨f', (rd T n f' (c + 2)).2, ?_, ?_, by omega⟩
                  · rw [← q1, ← (Prod.mk.inj q2).2]; simp
                  · rw [← (Prod.mk.inj q2).1]
                clear hcm hcm' hop
                go_wp2_with (go_at_call 42; refine P2.out.mono ?_; rintro e w6 ⟨rfl, hb6⟩)
                go_roundg (n - (c + 2))
                case measure => omega
                case rel =>
                  obtain ⟨f', rest', q1, q2, q3⟩ := HE.out
                  exact ⟨c + 2, f', acc ++ [(k, c)], rest', own', v', R', rfl, by go_num, ⟨q1, q2, q3⟩, by simp; omega, by simp; omega, HST'.out.below hb6⟩
              · have hcm' : isP (T (c + 1)) ⟨#[44]⟩ = false := hcm
                rw [hcm'] at P2
                have HE : Hid (acc ++ [(k, c)] = ps ∧ r = c + 1) := by
                  obtain ⟨q1, q2, q3⟩ := HA.out
                  obtain ⟨f', rfl⟩ : ∃ f', f = f' + 1 := ⟨f - 1, by omega⟩
                  rw [rd_last hlt hop HC2.out (by simp [hcm])] at q2
                  cases q2
                  exact ⟨q1, rfl⟩
                clear hcm hcm' hop
                go_wp2_with (go_at_call 42; refine P2.out.mono ?_; rintro e w6 ⟨rfl, hb6⟩)
                go_ret
                obtain ⟨q1, q2⟩ := HE.out
                exact ⟨by rw [q2]; rfl, own', v', R', by rw [← q1]; exact HST'.out.below hb6⟩
            · have dcl : decide ((c : Int) + 1 ≥ (n : Int)) = true := decide_eq_true (by omega)
              have HE : Hid (acc ++ [(k, c)] = ps ∧ r = c + 1) := by
                obtain ⟨q1, q2, q3⟩ := HA.out
                obtain ⟨f', rfl⟩ : ∃ f', f = f' + 1 := ⟨f - 1, by omega⟩
                rw [rd_last hlt hop HC2.out (by omega)] at q2
                cases q2
                exact ⟨q1, rfl⟩
              clear hop
              go_wp2
              go_ret
              obtain ⟨q1, q2⟩ := HE.out
              exact ⟨by rw [q2]; rfl, own', v', R', by rw [← q1]; exact HST'.out⟩
      · have hop' : isP (T k) ⟨#[40]⟩ = false := hop
        unfold Tok.val at P1
        rw [hop'] at P1
        have HS : Hid (acc = ps ∧ r = k) := by
          obtain ⟨q1, q2, q3⟩ := HA.out
          rw [rd_stop f k (by simp [hop])] at q2
          cases q2
          exact ⟨by simpa using q1, rfl⟩
        clear hop hop'
        go_wp2_with (go_at_call 42; refine P1.out.mono ?_; rintro e w2 ⟨rfl, hb2⟩)
        go_ret
        obtain ⟨q1, q2⟩ := HS.out
        exact ⟨by rw [q2]; rfl, own, v, R, by rw [← q1]; exact HST.out.below hb2⟩
    · have d' : decide ((k : Int) < (n : Int)) = false := decide_eq_false (by omega)
      have HS : Hid (acc = ps ∧ r = k) := by
        obtain ⟨q1, q2, q3⟩ := HA.out
        rw [rd_stop f k (by omega)] at q2
        cases q2
        exact ⟨by simpa using q1, rfl⟩
      go_wp2
      go_ret
      obtain ⟨q1, q2⟩ := HS.out
      exact ⟨by rw [q2]; rfl, own, v, R, by rw [← q1]; exact HST.out⟩
end Go.Proofs.Qxb6603997a
