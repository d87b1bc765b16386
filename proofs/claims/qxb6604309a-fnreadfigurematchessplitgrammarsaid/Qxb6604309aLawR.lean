import Derived.Test.Qxb6604309aFigR
import Derived.BigQuiet
namespace Go.Proofs.Qxb6604309a
open Go.RowKit

/-- Two answers to one question are one answer. -/
theorem Ans.one {l : List UInt8} {x : Option (Nat × List UInt8 × Int)} {W F : ByteArray} {P Q : Int} {ok : Bool} {W2 F2 : ByteArray} {P2 Q2 : Int} {ok2 : Bool} (h : Ans l x W F P Q ok) (h2 : Ans l x W2 F2 P2 Q2 ok2) : W2 = W ∧ F2 = F ∧ P2 = P ∧ Q2 = Q ∧ ok2 = ok := by
  have ext : ∀ {a b : ByteArray}, a.data.toList = b.data.toList → a = b := fun h => ByteArray.ext (Array.toList_inj.1 h)
  rcases h with ⟨h0, rfl, rfl, rfl, rfl, rfl⟩ | ⟨i, f, e, h0, hW, hF, rfl, hQ, rfl⟩
  · rcases h2 with ⟨_, rfl, rfl, rfl, rfl, rfl⟩ | ⟨i2, f2, e2, h1, _⟩
    · exact ⟨rfl, rfl, rfl, rfl, rfl⟩
    · rw [h0] at h1; cases h1
  · rcases h2 with ⟨h1, _⟩ | ⟨i2, f2, e2, h1, hW2, hF2, rfl, hQ2, rfl⟩
    · rw [h0] at h1; cases h1
    · rw [h0] at h1
      cases h1
      have e1 : W2 = W := ext (hW2.trans hW.symm)
      have e2 : F2 = F := ext (hF2.trans hF.symm)
      subst e1 e2
      exact ⟨rfl, rfl, rfl, hQ2.trans hQ.symm, rfl⟩

set_option maxHeartbeats 1000000 in
theorem zzRead_any (s : ByteArray) (w : World) (hs : s.size ≤ 1048576) :
    Calls Try.prog 6 #[.string s] w fun e w' => Ans5 s.data.toList (readP s.data.toList) e ∧ Below w.heap.size w w' := by
  have h := readFigure_any s w hs
  generalize readP s.data.toList = x at *
  go_enter Try.func6, Try.ntmps6
  go_wp2_with fail
  refine h.mono ?_
  rintro e w1 ⟨⟨W, F, P, Q, ok, rfl, ha⟩, hb⟩
  have HB : Hid (Below w.heap.size w w1) := hb
  have HA : Hid (Ans s.data.toList x W F P Q ok) := ha
  have hsz := hb.size
  clear hb ha h
  go_wp2_with fail
  go_quiet (fail)
  go_wp2
  refine bodyPost_ret (v := .tuple #[.string W, .string F, .int .i64 P, .int .i64 Q, .bool ok]) (by simp [results, Try.results6, go_sem]) rfl ⟨⟨W, F, P, Q, ok, rfl, HA.out⟩, ?_⟩
  exact (HB.out.alloc hsz _).trans ⟨rfl, rfl, rfl, Nat.le_refl _, fun _ _ => rfl⟩

theorem zzBytes5_yes (s : ByteArray) (w : World) (h : ¬ 1048576 < (s.size : Int)) :
    Calls Try.prog 5 #[.string s] w fun e w' => e = .returned (.bool true) ∧ w' = w := by
  go_enter Try.func5, Try.ntmps5
  go_wp2
  go_ret
  exact ⟨rfl, rfl⟩
theorem zzBytes5_no (s : ByteArray) (w : World) (h : 1048576 < (s.size : Int)) :
    Calls Try.prog 5 #[.string s] w fun e w' => e = .returned (.bool false) ∧ w' = w := by
  go_enter Try.func5, Try.ntmps5
  go_wp2
  go_ret
  exact ⟨rfl, rfl⟩

set_option maxRecDepth 100000 in
set_option maxHeartbeats 1000000 in
theorem lawR_any (s : ByteArray) (w : World) :
    Calls Try.prog 3 #[.string s] w fun e w' => e = .returned (.bool true) ∧ Below w.heap.size w w' := by
  by_cases h : 1048576 < (s.size : Int)
  · have hz := zzBytes5_no s w h
    go_enter Try.func3, Try.ntmps3
    go_wp2_with fail
    refine hz.mono ?_
    rintro e w' ⟨rfl, rfl⟩
    go_wp2
    go_ret
    exact ⟨rfl, Below.refl _ _⟩
  · have hz := zzBytes5_yes s w h
    have hn := zzRead_any s w (by omega)
    have HL : Hid (∀ w, Calls Try.prog 7 #[.string s] w fun e w' => Ans5 s.data.toList (readP s.data.toList) e ∧ w' = w) := by
      intro w
      rw [read_eq]
      exact model_any s w (by omega)
    generalize readP s.data.toList = x at hn HL
    go_enter Try.func3, Try.ntmps3
    go_wp2_with fail
    refine hz.mono ?_
    rintro e wx ⟨rfl, hw⟩
    rw [hw]
    clear hw hz wx
    go_wp2_with fail
    refine hn.mono ?_
    rintro e w1 ⟨⟨W, F, P, Q, ok, rfl, ha⟩, hb⟩
    have HB : Hid (Below w.heap.size w w1) := hb
    have HA : Hid (Ans s.data.toList x W F P Q ok) := ha
    clear hb ha hn
    go_wp2_with fail
    refine (HL.out w1).mono ?_
    rintro e wx ⟨⟨W2, F2, P2, Q2, ok2, rfl, ha2⟩, hw⟩
    rw [hw]
    obtain ⟨rfl, rfl, rfl, rfl, rfl⟩ := HA.out.one ha2
    clear hw wx ha2 HL HA
    go_wp2
    go_ret
    exact ⟨rfl, HB.out⟩
end Go.Proofs.Qxb6604309a
