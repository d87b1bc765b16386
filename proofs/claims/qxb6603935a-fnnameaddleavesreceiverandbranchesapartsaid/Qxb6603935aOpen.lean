import Derived.Test.Qxb6603935aSize
import Derived.ProofKit
import Derived.ShutString
import Derived.ChangeOld
namespace Go.Proofs.Qxb6603935a
open Go.ChangeShapes Go.WideShapes Go.ChangeAt Go.RowKit
open Go.ChangeMaps (open_string shut_string)

theorem Try.own : ownKnob Try.prog.godebug = none := by kernel_rfl
theorem Try.laidOut : laidOutB Try.prog = true := by kernel_rfl
theorem Try.cells9 : Try.prog.cellsOf 9 = 1 := by kernel_rfl

/-- What the walks are told of the slice of strings that came in. -/
theorem open_tails {H : Type} {enc : TypeId × Value → H} {W : World} {a0 : Option Addr} {len cap : Nat} {d : DataW H} {p : List MemPlace}
    (h : DataW.Trod enc Try.prog W 0 (fun _ => true) true 22 (.slice a0 len cap) d p) :
    ∃ ts : List ByteArray, ts.length = len ∧ Strs W a0 ts ∧ len ≤ maxLen ∧ (a0 = none → cap = 0) := by
  obtain ⟨fuel, hf⟩ := h
  rcases open_strings Try.underlying22 Try.underlying9 Try.cells9 hf with ⟨hcs, _⟩ | ⟨a, len', cap', ss, hcs, _, hl, hm, hz, _, hcell, _⟩
  · simp [Value.cells] at hcs
    obtain ⟨rfl, rfl, rfl⟩ := hcs
    exact ⟨[], rfl, .inl rfl, Nat.zero_le _, fun _ => rfl⟩
  · simp [Value.cells] at hcs
    obtain ⟨rfl, rfl, rfl⟩ := hcs
    simp only [if_true] at hz
    have hlen : (ss.take len).length = len := by simp; omega
    refine ⟨ss.take len, hlen, ?_, by omega, fun h => by simp at h⟩
    by_cases h0 : len = 0
    · subst h0; exact .inl rfl
    · obtain ⟨b, off, spot⟩ := a
      have hspot : spot = none := by simpa [Addr.add] using World.cell?_spot (hcell 0 (by omega))
      subst hspot
      refine .inr ⟨b, off, rfl, fun k hk => ?_⟩
      rw [hlen] at hk
      have := hcell k (by omega)
      rw [add_plain] at this
      rw [this, List.getD_eq_getElem?_getD, List.getD_eq_getElem?_getD, List.getElem?_take, if_pos hk]
end Go.Proofs.Qxb6603935a
