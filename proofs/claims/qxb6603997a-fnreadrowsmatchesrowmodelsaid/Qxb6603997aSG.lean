import Derived.Test.Qxb6603997aRM
import Derived.ProofKit
import Derived.ShutString
import Derived.ChangeOld
import Derived.Deep.Slices
namespace Go.Proofs.Qxb6603997a
open Go.ChangeShapes Go.WideShapes Go.ChangeAt Go.RowKit

theorem Try.own : ownKnob Try.prog.godebug = none := by kernel_rfl
theorem Try.laidOut : laidOutB Try.prog = true := by kernel_rfl
theorem Try.cells3 : Try.prog.cellsOf 3 = 1 := by kernel_rfl
theorem Try.cells9 : Try.prog.cellsOf 9 = 1 := by kernel_rfl
theorem Try.cells59 : Try.prog.cellsOf 59 = 1 := by kernel_rfl
theorem Try.cells24 : Try.prog.cellsOf 24 = 1 := by kernel_rfl
theorem Try.cells55 : Try.prog.cellsOf 55 = 1 := by kernel_rfl
theorem Try.cells61 : Try.prog.cellsOf 61 = 5 := by kernel_rfl
theorem Try.cells57 : Try.prog.cellsOf 57 = 3 := by kernel_rfl
theorem Try.cells66 : Try.prog.cellsOf 66 = 2 := by kernel_rfl

instance : Inhabited Tok := ⟨⟨0, ⟨#[]⟩, 0, 0, 0⟩⟩
instance : Inhabited Hd := ⟨⟨none, 0, 0⟩⟩
instance : Inhabited RowD := ⟨⟨0, 0, default, fun _ => default, fun _ _ => default⟩⟩
instance : Inhabited SetD := ⟨⟨⟨#[]⟩, default, fun _ => default⟩⟩

theorem cell_plain {w : World} {b o : Nat} {s : Option Nat} {v : Value} (h : w.cell? ⟨b, o, s⟩ = some v) : s = none := by
  cases s with
  | none => rfl
  | some s =>
    unfold World.cell? at h
    split at h <;> simp at h

section
variable {H : Type} {enc : TypeId × Value → H} {W : World}

/-- A slice opened: its head, and of each element what its cells say. -/
theorem open_sl {α : Type} [Inhabited α] {t e : TypeId} {st : Nat} (G : Nat → Nat → α → Prop) (ht : Try.prog.underlying t = some (.slice e)) (hc : Try.prog.cellsOf e = st) (hst : 0 < st)
    (hel : ∀ (n : Nat) (cs : List Value) (y : DataW H × List MemPlace) (b o : Nat), cs.length = st → (∀ j, j < st → W.cell? ⟨b, o + j, none⟩ = cs[j]?) → DataW.trod enc Try.prog W 0 (fun _ => true) true n e cs = some y → ∃ x : α, G b o x)
    {fuel : Nat} {v : Value} {x : DataW H × List MemPlace} (h : DataW.trod enc Try.prog W 0 (fun _ => true) true fuel t [v] = some x) :
    ∃ (h : Hd) (F : Nat → α), v = h.val ∧ h.ok ∧ ∀ k, k < h.n → ElAt h.a st k fun b o => G b o (F k) := by
  rcases Deep.open_slice ht h with ⟨h0, -⟩ | ⟨a, len, cap, m, n, D, Pl, h0, -, hl, hm, hmm, -, hx⟩
  · cases h0
    exact ⟨⟨none, 0, 0⟩, fun _ => default, rfl, ⟨fun _ => ⟨rfl, rfl⟩, Nat.le_refl _, Nat.zero_le _⟩, fun k hk => absurd hk (Nat.not_lt_zero _)⟩
  · cases h0
    simp only [if_true] at hmm
    obtain ⟨b, off, s⟩ := a
    rw [hc] at hx
    by_cases h0 : len = 0
    · subst h0
      exact ⟨⟨some ⟨b, off, s⟩, 0, cap⟩, fun _ => default, rfl, ⟨fun e => (by cases e), hl, hm⟩, fun k hk => absurd hk (Nat.not_lt_zero _)⟩
    · have hs : s = none := by
        obtain ⟨cs', h1, -⟩ := hx 0 (by omega)
        obtain ⟨-, h2, h3⟩ := World.cells?_some h1
        have h4 := h3 0 hst
        rw [Nat.zero_mul, Addr.add_zero', Addr.add_zero'] at h4
        rw [List.getElem?_eq_getElem (by omega)] at h4
        exact cell_plain h4
      subst hs
      obtain ⟨F, hF⟩ := Deep.choose_lt (α := α) (n := len) (p := fun i x => G b (off + i * st) x) (fun i hi => by
        obtain ⟨cs', h1, h2⟩ := hx i (by omega)
        obtain ⟨-, h3, h4⟩ := World.cells?_some h1
        refine hel n cs' _ b (off + i * st) h3 (fun j hj => ?_) h2
        have := h4 j hj
        rw [Addr.add_lit, Addr.add_lit] at this
        exact this)
      exact ⟨⟨some ⟨b, off, none⟩, len, cap⟩, F, rfl, ⟨fun e => (by cases e), hl, hm⟩, fun k hk => ⟨b, off, rfl, hF k hk⟩⟩

theorem list1 {cs : List Value} (h : cs.length = 1) : ∃ v, cs = [v] := by
  match cs, h with
  | [v], _ => exact ⟨v, rfl⟩

theorem open_toks {fuel : Nat} {v : Value} {x : DataW H × List MemPlace} (h : DataW.trod enc Try.prog W 0 (fun _ => true) true fuel 24 [v] = some x) : ∃ (h : Hd) (T : Nat → Tok), v = h.val ∧ h.ok ∧ ToksAt W h T := by
  refine open_sl (fun b o t => TokAt W b o t) Try.underlying24 Try.cells61 (by decide) ?_ h
  intro n cs y b o hl hcs hy
  obtain ⟨xs, n', -, -, -, hxl, hf⟩ := DataW.trod_struct Try.underlying61 hy
  match cs, hl with
  | [u0, u1, u2, u3, u4], _ =>
    have g0 : DataW.trod enc Try.prog W 0 (fun _ => true) true n' 3 (List.take (Try.prog.cellsOf 3) [u0, u1, u2, u3, u4]) = xs[0]? := hf 0 _ rfl
    rw [Try.cells3] at g0
    have f0 : DataW.trod enc Try.prog W 0 (fun _ => true) true n' 3 [u0] = xs[0]? := g0
    have g1 : DataW.trod enc Try.prog W 0 (fun _ => true) true n' 9 (List.take (Try.prog.cellsOf 9) [u1, u2, u3, u4]) = xs[1]? := hf 1 _ rfl
    rw [Try.cells9] at g1
    have f1 : DataW.trod enc Try.prog W 0 (fun _ => true) true n' 9 [u1] = xs[1]? := g1
    have g2 : DataW.trod enc Try.prog W 0 (fun _ => true) true n' 3 (List.take (Try.prog.cellsOf 3) [u2, u3, u4]) = xs[2]? := hf 2 _ rfl
    rw [Try.cells3] at g2
    have f2 : DataW.trod enc Try.prog W 0 (fun _ => true) true n' 3 [u2] = xs[2]? := g2
    have g3 : DataW.trod enc Try.prog W 0 (fun _ => true) true n' 3 (List.take (Try.prog.cellsOf 3) [u3, u4]) = xs[3]? := hf 3 _ rfl
    rw [Try.cells3] at g3
    have f3 : DataW.trod enc Try.prog W 0 (fun _ => true) true n' 3 [u3] = xs[3]? := g3
    have g4 : DataW.trod enc Try.prog W 0 (fun _ => true) true n' 59 (List.take (Try.prog.cellsOf 59) [u4]) = xs[4]? := hf 4 _ rfl
    rw [Try.cells59] at g4
    have f4 : DataW.trod enc Try.prog W 0 (fun _ => true) true n' 59 [u4] = xs[4]? := g4
    match xs, hxl with
    | [x0, x1, x2, x3, x4], _ =>
      obtain ⟨i0, e0, -, -⟩ := DataW.trod_int Try.underlying3 f0
      obtain ⟨i1, e1, -, -⟩ := DataW.trod_string Try.underlying9 f1
      obtain ⟨i2, e2, -, -⟩ := DataW.trod_int Try.underlying3 f2
      obtain ⟨i3, e3, -, -⟩ := DataW.trod_int Try.underlying3 f3
      obtain ⟨i4, e4, -, -⟩ := DataW.trod_int Try.underlying59 f4
      cases e0
      cases e1
      cases e2
      cases e3
      cases e4
      exact ⟨⟨i0, i1, i2, i3, i4⟩, hcs 0 (by decide), hcs 1 (by decide), hcs 2 (by decide), hcs 3 (by decide), hcs 4 (by decide)⟩

theorem open_strs {fuel : Nat} {v : Value} {x : DataW H × List MemPlace} (h : DataW.trod enc Try.prog W 0 (fun _ => true) true fuel 26 [v] = some x) : ∃ (h : Hd) (S : Nat → ByteArray), v = h.val ∧ h.ok ∧ StrsAt W h S := by
  refine open_sl (fun b o s => W.cell? ⟨b, o, none⟩ = some (.string s)) Try.underlying26 Try.cells9 (by decide) ?_ h
  intro n cs y b o hl hcs hy
  obtain ⟨s, rfl, -, -⟩ := DataW.trod_string Try.underlying9 hy
  exact ⟨s, hcs 0 (by decide)⟩

theorem open_ints3 {fuel : Nat} {v : Value} {x : DataW H × List MemPlace} (h : DataW.trod enc Try.prog W 0 (fun _ => true) true fuel 25 [v] = some x) : ∃ (h : Hd) (I : Nat → Int), v = h.val ∧ h.ok ∧ IntsAt W h I := by
  refine open_sl (fun b o s => W.cell? ⟨b, o, none⟩ = some (.int .i64 s)) Try.underlying25 Try.cells3 (by decide) ?_ h
  intro n cs y b o hl hcs hy
  obtain ⟨s, rfl, -, -⟩ := DataW.trod_int Try.underlying3 hy
  exact ⟨s, hcs 0 (by decide)⟩

theorem open_vals {fuel : Nat} {v : Value} {x : DataW H × List MemPlace} (h : DataW.trod enc Try.prog W 0 (fun _ => true) true fuel 55 [v] = some x) : ∃ (h : Hd) (HH : Nat → Hd) (T : Nat → Nat → Tok), v = h.val ∧ h.ok ∧ ValsAt W h HH T := by
  obtain ⟨g, F, e, hok, hF⟩ := open_sl (W := W) (fun b o (p : Hd × (Nat → Tok)) => W.cell? ⟨b, o, none⟩ = some p.1.val ∧ p.1.ok ∧ ToksAt W p.1 p.2) Try.underlying55 Try.cells24 (by decide) (fun n cs y b o hl hcs hy => by
    obtain ⟨u, rfl⟩ := list1 hl
    obtain ⟨g, T, rfl, k, a⟩ := open_toks hy
    exact ⟨(g, T), hcs 0 (by decide), k, a⟩) h
  exact ⟨g, fun k => (F k).1, fun k => (F k).2, e, hok, fun k hk => by
    obtain ⟨b, off, e1, q1, q2, q3⟩ := hF k hk
    exact ⟨⟨b, off, e1, q1⟩, q2, q3⟩⟩

theorem open_rows {fuel : Nat} {v : Value} {x : DataW H × List MemPlace} (h : DataW.trod enc Try.prog W 0 (fun _ => true) true fuel 27 [v] = some x) : ∃ (h : Hd) (R : Nat → RowD), v = h.val ∧ h.ok ∧ RowsAt W h R := by
  obtain ⟨g, F, e, hok, hF⟩ := open_sl (W := W) (fun b o (r : RowD) => RowC W b o r.p r.e r.v.val ∧ r.v.ok ∧ ValsAt W r.v r.H r.T) Try.underlying27 Try.cells57 (by decide) (fun n cs y b o hl hcs hy => by
    obtain ⟨xs, n', -, -, -, hxl, hf⟩ := DataW.trod_struct Try.underlying57 hy
    match cs, hl with
    | [u0, u1, u2], _ =>
      have g0 : DataW.trod enc Try.prog W 0 (fun _ => true) true n' 3 (List.take (Try.prog.cellsOf 3) [u0, u1, u2]) = xs[0]? := hf 0 _ rfl
      rw [Try.cells3] at g0
      have f0 : DataW.trod enc Try.prog W 0 (fun _ => true) true n' 3 [u0] = xs[0]? := g0
      have g1 : DataW.trod enc Try.prog W 0 (fun _ => true) true n' 3 (List.take (Try.prog.cellsOf 3) [u1, u2]) = xs[1]? := hf 1 _ rfl
      rw [Try.cells3] at g1
      have f1 : DataW.trod enc Try.prog W 0 (fun _ => true) true n' 3 [u1] = xs[1]? := g1
      have g2 : DataW.trod enc Try.prog W 0 (fun _ => true) true n' 55 (List.take (Try.prog.cellsOf 55) [u2]) = xs[2]? := hf 2 _ rfl
      rw [Try.cells55] at g2
      have f2 : DataW.trod enc Try.prog W 0 (fun _ => true) true n' 55 [u2] = xs[2]? := g2
      match xs, hxl with
      | [x0, x1, x2], _ =>
        obtain ⟨i0, e0, -, -⟩ := DataW.trod_int Try.underlying3 f0
        obtain ⟨i1, e1, -, -⟩ := DataW.trod_int Try.underlying3 f1
        obtain ⟨g, HH, T, rfl, k, a⟩ := open_vals f2
        cases e0
        cases e1
        exact ⟨⟨i0, i1, g, HH, T⟩, ⟨hcs 0 (by decide), hcs 1 (by decide), hcs 2 (by decide)⟩, k, a⟩) h
  exact ⟨g, F, e, hok, fun k hk => by
    obtain ⟨b, off, e1, q1, q2, q3⟩ := hF k hk
    exact ⟨⟨b, off, e1, q1⟩, q2, q3⟩⟩

theorem open_set {fuel : Nat} {v : Value} {x : DataW H × List MemPlace} (h : DataW.trod enc Try.prog W 0 (fun _ => true) true fuel 28 [v] = some x) : ∃ (h : Hd) (R : Nat → SetD), v = h.val ∧ h.ok ∧ SetAt W h R := by
  obtain ⟨g, F, e, hok, hF⟩ := open_sl (W := W) (fun b o (r : SetD) => SetC W b o r.s r.v.val ∧ r.v.ok ∧ ToksAt W r.v r.T) Try.underlying28 Try.cells66 (by decide) (fun n cs y b o hl hcs hy => by
    obtain ⟨xs, n', -, -, -, hxl, hf⟩ := DataW.trod_struct Try.underlying66 hy
    match cs, hl with
    | [u0, u1], _ =>
      have g0 : DataW.trod enc Try.prog W 0 (fun _ => true) true n' 9 (List.take (Try.prog.cellsOf 9) [u0, u1]) = xs[0]? := hf 0 _ rfl
      rw [Try.cells9] at g0
      have f0 : DataW.trod enc Try.prog W 0 (fun _ => true) true n' 9 [u0] = xs[0]? := g0
      have g1 : DataW.trod enc Try.prog W 0 (fun _ => true) true n' 24 (List.take (Try.prog.cellsOf 24) [u1]) = xs[1]? := hf 1 _ rfl
      rw [Try.cells24] at g1
      have f1 : DataW.trod enc Try.prog W 0 (fun _ => true) true n' 24 [u1] = xs[1]? := g1
      match xs, hxl with
      | [x0, x1], _ =>
        obtain ⟨i0, e0, -, -⟩ := DataW.trod_string Try.underlying9 f0
        obtain ⟨g, T, rfl, k, a⟩ := open_toks f1
        cases e0
        exact ⟨⟨i0, g, T⟩, ⟨hcs 0 (by decide), hcs 1 (by decide)⟩, k, a⟩) h
  exact ⟨g, F, e, hok, fun k hk => by
    obtain ⟨b, off, e1, q1, q2, q3⟩ := hF k hk
    exact ⟨⟨b, off, e1, q1⟩, q2, q3⟩⟩
end
end Go.Proofs.Qxb6603997a
