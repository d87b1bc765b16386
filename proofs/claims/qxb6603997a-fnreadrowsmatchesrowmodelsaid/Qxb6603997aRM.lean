import Derived.Test.Qxb6603997aRows
import Derived.WalkKit
import Derived.Below
import Derived.Deep.OwnRows
import Derived.Deep.LoopGhost
import Derived.Lib.Strings
import Derived.Lib.SliceRun
namespace Go.Proofs.Qxb6603997a
open Go.RowKit

/-- A token, field by field. -/
structure Tok where
  kind : Int
  text : ByteArray
  pos : Int
  stop : Int
  mode : Int

def Tok.val (t : Tok) : Value := .agg #[.int .i64 t.kind, .string t.text, .int .i64 t.pos, .int .i64 t.stop, .int .u64 t.mode]

/-- Five cells at a place hold the token. -/
structure TokAt (w : World) (b o : Nat) (t : Tok) : Prop where
  c0 : w.cell? ⟨b, o, none⟩ = some (.int .i64 t.kind)
  c1 : w.cell? ⟨b, o + 1, none⟩ = some (.string t.text)
  c2 : w.cell? ⟨b, o + 2, none⟩ = some (.int .i64 t.pos)
  c3 : w.cell? ⟨b, o + 3, none⟩ = some (.int .i64 t.stop)
  c4 : w.cell? ⟨b, o + 4, none⟩ = some (.int .u64 t.mode)

/-- A slice's head. -/
structure Hd where
  a : Option Addr
  n : Nat
  cap : Nat
def Hd.val (h : Hd) : Value := .slice h.a h.n h.cap
/-- What every slice's head keeps. -/
def Hd.ok (h : Hd) : Prop := (h.a = none → h.n = 0 ∧ h.cap = 0) ∧ h.n ≤ h.cap ∧ h.cap ≤ maxLen

/-- Element k of a slice lies at its place. -/
def ElAt (a : Option Addr) (st k : Nat) (Q : Nat → Nat → Prop) : Prop := ∃ b off, a = some ⟨b, off, none⟩ ∧ Q b (off + k * st)

def ToksAt (w : World) (h : Hd) (T : Nat → Tok) : Prop := ∀ k, k < h.n → ElAt h.a 5 k fun b o => TokAt w b o (T k)
def StrsAt (w : World) (h : Hd) (S : Nat → ByteArray) : Prop := ∀ k, k < h.n → ElAt h.a 1 k fun b o => w.cell? ⟨b, o, none⟩ = some (.string (S k))
def IntsAt (w : World) (h : Hd) (I : Nat → Int) : Prop := ∀ k, k < h.n → ElAt h.a 1 k fun b o => w.cell? ⟨b, o, none⟩ = some (.int .i64 (I k))
/-- A slice of slices of tokens. -/
def ValsAt (w : World) (h : Hd) (H : Nat → Hd) (T : Nat → Nat → Tok) : Prop :=
  ∀ k, k < h.n → (ElAt h.a 1 k fun b o => w.cell? ⟨b, o, none⟩ = some (H k).val) ∧ (H k).ok ∧ ToksAt w (H k) (T k)
/-- A row's three cells. -/
structure RowC (w : World) (b o : Nat) (p e : Int) (v : Value) : Prop where
  c0 : w.cell? ⟨b, o, none⟩ = some (.int .i64 p)
  c1 : w.cell? ⟨b, o + 1, none⟩ = some (.int .i64 e)
  c2 : w.cell? ⟨b, o + 2, none⟩ = some v
/-- The rows, as data. -/
structure RowD where
  p : Int
  e : Int
  v : Hd
  H : Nat → Hd
  T : Nat → Nat → Tok
def RowsAt (w : World) (h : Hd) (R : Nat → RowD) : Prop :=
  ∀ k, k < h.n → (ElAt h.a 3 k fun b o => RowC w b o (R k).p (R k).e (R k).v.val) ∧ (R k).v.ok ∧ ValsAt w (R k).v (R k).H (R k).T
/-- An assignment's two cells. -/
structure SetC (w : World) (b o : Nat) (s : ByteArray) (v : Value) : Prop where
  c0 : w.cell? ⟨b, o, none⟩ = some (.string s)
  c1 : w.cell? ⟨b, o + 1, none⟩ = some v
structure SetD where
  s : ByteArray
  v : Hd
  T : Nat → Tok
def SetAt (w : World) (h : Hd) (R : Nat → SetD) : Prop :=
  ∀ k, k < h.n → (ElAt h.a 2 k fun b o => SetC w b o (R k).s (R k).v.val) ∧ (R k).v.ok ∧ ToksAt w (R k).v (R k).T

theorem cell_lt {w : World} {b o : Nat} {v : Value} (h : w.cell? ⟨b, o, none⟩ = some v) : b < w.heap.size := World.block_lt_of_cell? w ⟨b, o, none⟩ h

/-! ### What a store elsewhere leaves -/

/-- The head's block is one of these. -/
def Hd.In (N : Nat → Prop) (h : Hd) : Prop := ∀ b o s, h.a = some ⟨b, o, s⟩ → N b
def ValsIn (N : Nat → Prop) (h : Hd) (H : Nat → Hd) : Prop := h.In N ∧ ∀ k, k < h.n → (H k).In N
def RowsIn (N : Nat → Prop) (h : Hd) (R : Nat → RowD) : Prop := h.In N ∧ ∀ k, k < h.n → ValsIn N (R k).v (R k).H
def SetIn (N : Nat → Prop) (h : Hd) (R : Nat → SetD) : Prop := h.In N ∧ ∀ k, k < h.n → (R k).v.In N
theorem Hd.In.mono {N M : Nat → Prop} {h : Hd} (k : h.In N) (nm : ∀ b, N b → M b) : h.In M := fun b o s e => nm b (k b o s e)
theorem ValsIn.mono {N M : Nat → Prop} {h : Hd} {H : Nat → Hd} (k : ValsIn N h H) (nm : ∀ b, N b → M b) : ValsIn M h H := ⟨k.1.mono nm, fun j hj => (k.2 j hj).mono nm⟩
theorem RowsIn.mono {N M : Nat → Prop} {h : Hd} {R : Nat → RowD} (k : RowsIn N h R) (nm : ∀ b, N b → M b) : RowsIn M h R := ⟨k.1.mono nm, fun j hj => (k.2 j hj).mono nm⟩
theorem SetIn.mono {N M : Nat → Prop} {h : Hd} {R : Nat → SetD} (k : SetIn N h R) (nm : ∀ b, N b → M b) : SetIn M h R := ⟨k.1.mono nm, fun j hj => (k.2 j hj).mono nm⟩

/-- The blocks N are as they were. -/
def Keep (N : Nat → Prop) (w w' : World) : Prop := ∀ k, k < w.heap.size → N k → w'.heap[k]? = w.heap[k]?
theorem Below.keep {w w' : World} (hb : Below w.heap.size w w') (N : Nat → Prop) : Keep N w w' := fun k hk _ => hb.block k hk
theorem Keep.set {w w' : World} {N : Nat → Prop} {B : Nat} (h : Keep N w w') (hN : ∀ b, N b → b ≠ B) (o : Nat) (v : Value) : Keep N w (w'.setCell ⟨B, o, none⟩ v) :=
  fun k hk hn => (Below.heap_setCell _ _ _ _ (hN k hn)).trans (h k hk hn)
theorem Keep.refl (N : Nat → Prop) (w : World) : Keep N w w := fun _ _ _ => rfl
theorem Keep.trans {N : Nat → Prop} {a b c : World} (h : Keep N a b) (hs : a.heap.size ≤ b.heap.size) (k : Keep N b c) : Keep N a c := fun i hi hn => (k i (by omega) hn).trans (h i hi hn)

section
variable {w w' : World} {N : Nat → Prop} (hk : Keep N w w')
include hk
theorem cell_k {b o : Nat} {v : Value} (hN : N b) (h : w.cell? ⟨b, o, none⟩ = some v) : w'.cell? ⟨b, o, none⟩ = some v := (World.cell?_of_block (w := w) (a := ⟨b, o, none⟩) (hk b (cell_lt h) hN)).trans h
theorem TokAt.keep {b o : Nat} {t : Tok} (hN : N b) (h : TokAt w b o t) : TokAt w' b o t := ⟨cell_k hk hN h.c0, cell_k hk hN h.c1, cell_k hk hN h.c2, cell_k hk hN h.c3, cell_k hk hN h.c4⟩
theorem RowC.keep {b o : Nat} {p e : Int} {v : Value} (hN : N b) (h : RowC w b o p e v) : RowC w' b o p e v := ⟨cell_k hk hN h.c0, cell_k hk hN h.c1, cell_k hk hN h.c2⟩
theorem SetC.keep {b o : Nat} {s : ByteArray} {v : Value} (hN : N b) (h : SetC w b o s v) : SetC w' b o s v := ⟨cell_k hk hN h.c0, cell_k hk hN h.c1⟩
theorem ToksAt.keep {h : Hd} {T : Nat → Tok} (hN : h.In N) (k : ToksAt w h T) : ToksAt w' h T := fun j hj => let ⟨b, o, e, q⟩ := k j hj; ⟨b, o, e, q.keep hk (hN _ _ _ e)⟩
theorem StrsAt.keep {h : Hd} {T : Nat → ByteArray} (hN : h.In N) (k : StrsAt w h T) : StrsAt w' h T := fun j hj => let ⟨b, o, e, q⟩ := k j hj; ⟨b, o, e, cell_k hk (hN _ _ _ e) q⟩
theorem IntsAt.keep {h : Hd} {T : Nat → Int} (hN : h.In N) (k : IntsAt w h T) : IntsAt w' h T := fun j hj => let ⟨b, o, e, q⟩ := k j hj; ⟨b, o, e, cell_k hk (hN _ _ _ e) q⟩
theorem ValsAt.keep {h : Hd} {H : Nat → Hd} {T : Nat → Nat → Tok} (hN : ValsIn N h H) (k : ValsAt w h H T) : ValsAt w' h H T := fun j hj => let ⟨⟨b, o, e, q⟩, u, v⟩ := k j hj; ⟨⟨b, o, e, cell_k hk (hN.1 _ _ _ e) q⟩, u, v.keep hk (hN.2 j hj)⟩
theorem RowsAt.keep {h : Hd} {R : Nat → RowD} (hN : RowsIn N h R) (k : RowsAt w h R) : RowsAt w' h R := fun j hj => let ⟨⟨b, o, e, q⟩, u, v⟩ := k j hj; ⟨⟨b, o, e, q.keep hk (hN.1 _ _ _ e)⟩, u, v.keep hk (hN.2 j hj)⟩
theorem SetAt.keep {h : Hd} {R : Nat → SetD} (hN : SetIn N h R) (k : SetAt w h R) : SetAt w' h R := fun j hj => let ⟨⟨b, o, e, q⟩, u, v⟩ := k j hj; ⟨⟨b, o, e, q.keep hk (hN.1 _ _ _ e)⟩, u, v.keep hk (hN.2 j hj)⟩
end

theorem Hd.all (h : Hd) : h.In fun _ => True := fun _ _ _ _ => trivial
section
variable {w w' : World} (hb : Below w.heap.size w w')
include hb
theorem cell_b {b o : Nat} {v : Value} (h : w.cell? ⟨b, o, none⟩ = some v) : w'.cell? ⟨b, o, none⟩ = some v := cell_k (N := fun _ => True) (Below.keep hb _) trivial h
theorem TokAt.below {b o : Nat} {t : Tok} (h : TokAt w b o t) : TokAt w' b o t := h.keep (Below.keep hb fun _ => True) trivial
theorem RowC.below {b o : Nat} {p e : Int} {v : Value} (h : RowC w b o p e v) : RowC w' b o p e v := h.keep (Below.keep hb fun _ => True) trivial
theorem SetC.below {b o : Nat} {s : ByteArray} {v : Value} (h : SetC w b o s v) : SetC w' b o s v := h.keep (Below.keep hb fun _ => True) trivial
theorem ToksAt.below {h : Hd} {T : Nat → Tok} (k : ToksAt w h T) : ToksAt w' h T := k.keep (Below.keep hb _) h.all
theorem StrsAt.below {h : Hd} {T : Nat → ByteArray} (k : StrsAt w h T) : StrsAt w' h T := k.keep (Below.keep hb _) h.all
theorem IntsAt.below {h : Hd} {T : Nat → Int} (k : IntsAt w h T) : IntsAt w' h T := k.keep (Below.keep hb _) h.all
theorem ValsAt.below {h : Hd} {H : Nat → Hd} {T : Nat → Nat → Tok} (k : ValsAt w h H T) : ValsAt w' h H T := k.keep (Below.keep hb _) ⟨h.all, fun _ _ => Hd.all _⟩
theorem RowsAt.below {h : Hd} {R : Nat → RowD} (k : RowsAt w h R) : RowsAt w' h R := k.keep (Below.keep hb _) ⟨h.all, fun _ _ => ⟨Hd.all _, fun _ _ => Hd.all _⟩⟩
theorem SetAt.below {h : Hd} {R : Nat → SetD} (k : SetAt w h R) : SetAt w' h R := k.keep (Below.keep hb _) ⟨h.all, fun _ _ => Hd.all _⟩
end

/-- A copy's head. -/
structure Cp (B : Nat) (h h' : Hd) : Prop where
  n : h'.n = h.n
  cap : h'.cap = h.n
  nil : h'.a = none ↔ h.a = none
  new : h'.In fun b => B ≤ b
  ok : h'.ok
theorem Cp.none (B : Nat) : Cp B ⟨none, 0, 0⟩ ⟨none, 0, 0⟩ := ⟨rfl, rfl, Iff.rfl, fun _ _ _ e => (by cases e), fun _ => ⟨rfl, rfl⟩, Nat.le_refl _, Nat.zero_le _⟩
theorem Cp.made (B : Nat) {n cap : Nat} {a : Addr} (h : n ≤ 1048576) : Cp B ⟨some a, n, cap⟩ ⟨some ⟨B, 0, Option.none⟩, n, n⟩ :=
  ⟨rfl, rfl, ⟨fun e => (by cases e), fun e => (by cases e)⟩, fun _ _ _ e => (by cases e; exact Nat.le_refl _), fun e => (by cases e), Nat.le_refl _, by show n ≤ 9223372036854775807; omega⟩
end Go.Proofs.Qxb6603997a
