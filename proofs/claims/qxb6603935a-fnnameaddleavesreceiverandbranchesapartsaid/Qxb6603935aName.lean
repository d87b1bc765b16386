import Derived.Test.Qxb6603935aPlain
import Derived.RegionTactic
import Derived.BigRegion
import Derived.Deep.RegionWith
import Derived.Deep.QuietTactic
import Derived.BigQuiet
namespace Go.Proofs.Qxb6603935a
open Go.RowKit

/-! ### Facts on one link, that the walks take -/
def SizeAt (w : World) (s : ByteArray) (p : Option Addr) (n : Int) : Prop :=
  (p = none ∧ n = (s.size : Int) ∧ s.size ≤ 4194304) ∨ ∃ b, p = some ⟨b, 0, none⟩ ∧ w.cell? ⟨b, 3, none⟩ = some (.int .i64 n)
def DepthAt (w : World) (p : Option Addr) (d : Int) : Prop :=
  (p = none ∧ d = 0) ∨ ∃ b, p = some ⟨b, 0, none⟩ ∧ w.cell? ⟨b, 4, none⟩ = some (.int .i64 d)
def SkipAt (w : World) (p q : Option Addr) : Prop :=
  (p = none ∧ q = none) ∨ ∃ b, p = some ⟨b, 0, none⟩ ∧ w.cell? ⟨b, 5, none⟩ = some (.pointer q)

theorem SizeAt.below {w w' : World} (hb : Below w.heap.size w w') {s : ByteArray} {p : Option Addr} {n : Int} (h : SizeAt w s p n) : SizeAt w' s p n := by
  rcases h with h | ⟨b, hp, hc⟩
  · exact .inl h
  · exact .inr ⟨b, hp, (hb.cell (p := ⟨b, 3, none⟩) (cell_lt hc)).trans hc⟩
theorem DepthAt.below {w w' : World} (hb : Below w.heap.size w w') {p : Option Addr} {n : Int} (h : DepthAt w p n) : DepthAt w' p n := by
  rcases h with h | ⟨b, hp, hc⟩
  · exact .inl h
  · exact .inr ⟨b, hp, (hb.cell (p := ⟨b, 4, none⟩) (cell_lt hc)).trans hc⟩
theorem SkipAt.below {w w' : World} (hb : Below w.heap.size w w') {p q : Option Addr} (h : SkipAt w p q) : SkipAt w' p q := by
  rcases h with h | ⟨b, hp, hc⟩
  · exact .inl h
  · exact .inr ⟨b, hp, (hb.cell (p := ⟨b, 5, none⟩) (cell_lt hc)).trans hc⟩

theorem Chain.sizeAt {w : World} {s : ByteArray} {l : List (Nat × ByteArray)} (h : Chain w s l) (hn : ln s (tails l) ≤ 4194304) : SizeAt w s (hp l) (ln s (tails l) : Nat) := by
  match l, h with
  | [], _ => exact .inl ⟨rfl, rfl, hn⟩
  | (b, t) :: r, ⟨_, _, _, c3, _⟩ => exact .inr ⟨b, rfl, c3⟩
theorem Chain.depthAt {w : World} {s : ByteArray} {l : List (Nat × ByteArray)} (h : Chain w s l) : ∃ d, DepthAt w (hp l) d := by
  match l, h with
  | [], _ => exact ⟨0, .inl ⟨rfl, rfl⟩⟩
  | (b, t) :: r, ⟨_, _, _, _, ⟨d, c4⟩, _⟩ => exact ⟨d, .inr ⟨b, rfl, c4⟩⟩
theorem Chain.skipAt {w : World} {s : ByteArray} {l : List (Nat × ByteArray)} (h : Chain w s l) : ∃ u, u <:+ l ∧ SkipAt w (hp l) (hp u) := by
  match l, h with
  | [], _ => exact ⟨[], List.suffix_refl _, .inl ⟨rfl, rfl⟩⟩
  | (b, t) :: r, ⟨_, _, _, _, _, ⟨u, hu, c5⟩, _⟩ => exact ⟨u, hu.trans (List.suffix_cons _ _), .inr ⟨b, rfl, c5⟩⟩

/-! ### The leaves -/
theorem len_raw (s : ByteArray) (p : Option Addr) (n : Int) (w : World) (h : SizeAt w s p n) :
    Calls Try.prog 16 #[.agg #[.string s, .pointer p]] w fun e w' => e = .returned (.int .i64 n) ∧ w' = w.alloc (.cells #[.string s, .pointer p] 28) := by
  rcases h with ⟨rfl, rfl, hs⟩ | ⟨b, rfl, hc⟩
  · go_enter Try.func16, Try.ntmps16
    go_wp2
    go_ret
    exact ⟨rfl, rfl⟩
  · have hb := cell_lt hc
    go_enter Try.func16, Try.ntmps16
    go_wp2
    go_ret
    exact ⟨rfl, rfl⟩

theorem depth_raw (p : Option Addr) (d : Int) (w : World) (h : DepthAt w p d) :
    Calls Try.prog 23 #[.pointer p] w fun e w' => e = .returned (.int .i64 d) ∧ w' = w := by
  rcases h with ⟨rfl, rfl⟩ | ⟨b, rfl, hc⟩
  · go_enter Try.func23, Try.ntmps23
    go_wp2
    go_ret
    exact ⟨rfl, rfl⟩
  · go_enter Try.func23, Try.ntmps23
    go_wp2
    go_ret
    exact ⟨rfl, rfl⟩

theorem skipOf_raw (p q : Option Addr) (w : World) (h : SkipAt w p q) :
    Calls Try.prog 24 #[.pointer p] w fun e w' => e = .returned (.pointer q) ∧ w' = w := by
  rcases h with ⟨rfl, rfl⟩ | ⟨b, rfl, hc⟩
  · go_enter Try.func24, Try.ntmps24
    go_wp2
    go_ret
    exact ⟨rfl, rfl⟩
  · go_enter Try.func24, Try.ntmps24
    go_wp2
    go_ret
    exact ⟨rfl, rfl⟩

theorem newName_any (s : ByteArray) (w : World) :
    Calls Try.prog 20 #[.string s] w fun e w' => e = .returned (.agg #[.string s, .pointer none]) ∧ Below w.heap.size w w' := by
  go_enter Try.func20, Try.ntmps20
  go_wp2
  exact bodyPost_ret (v := .agg #[.string s, .pointer none]) (by simp [results, Try.results20, go_sem]) rfl ⟨rfl, (Below.refl _ _).alloc (Nat.le_refl _) _⟩

/-! ### A new link -/
theorem chain_new {w3 : World} {s : ByteArray} {l : List (Nat × ByteArray)} (hc : Chain w3 s l) (t : ByteArray) (n d : Int) (hn : n = ((ln s (tails l) + t.size : Nat) : Int)) (q : Option Addr) (u : List (Nat × ByteArray)) (hu : u <:+ l) (hq : q = hp u) (b : Nat) (hb : b = w3.heap.size) (p : Option Addr) (hpl : p = hp l) :
    Chain (w3.alloc (.cells #[.string s, .pointer p, .string t, .int .i64 n, .int .i64 d, .pointer q] 43)) s ((b, t) :: l) := by
  subst hn; subst hq; subst hb; subst hpl
  refine ⟨?_, ?_, ?_, ?_, ⟨d, ?_⟩, ⟨u, hu, ?_⟩, hc.below ((Below.refl _ _).alloc (Nat.le_refl _) _)⟩
  all_goals rw [World.cell?_alloc_at (hn := rfl)]; rfl
theorem Chain.drew {w : World} {s : ByteArray} {l : List (Nat × ByteArray)} (hc : Chain w s l) : Chain w.drew s l :=
  hc.below (Below.refl _ _).drew

set_option maxHeartbeats 400000 in
theorem add_fits (s t : ByteArray) (w : World) (hs : s.size + t.size ≤ 256) :
    Calls Try.prog 15 #[.agg #[.string s, .pointer none], .string t] w fun e w' => e = .returned (.agg #[.string (s ++ t), .pointer none]) ∧ Below w.heap.size w w' := by
  go_enter Try.func15, Try.ntmps15
  go_wp2
  exact bodyPost_ret (v := .agg #[.string (s ++ t), .pointer none]) (by simp [results, Try.results15, go_sem]) rfl ⟨rfl, ((Below.refl _ _).alloc (Nat.le_refl _) _).alloc (by simp) _⟩

theorem below3 (w : World) (o1 o2 o3 : Obj) : Below w.heap.size w (((w.alloc o1).alloc o2).alloc o3) :=
  (((Below.refl _ _).alloc (Nat.le_refl _) _).alloc (by simp) _).alloc (by simp; omega) _
theorem below4 (w : World) (o1 o2 o3 o4 : Obj) : Below w.heap.size w ((((w.alloc o1).alloc o2).alloc o3).alloc o4) :=
  ((((Below.refl _ _).alloc (Nat.le_refl _) _).alloc (by simp) _).alloc (by simp; omega) _).alloc (by simp; omega) _

set_option maxHeartbeats 1000000 in
theorem add_first (s t : ByteArray) (w : World) (hs : 256 < s.size + t.size) (hn : s.size + t.size ≤ 2097152) :
    Calls Try.prog 15 #[.agg #[.string s, .pointer none], .string t] w fun e w' => ∃ b, e = .returned (.agg #[.string s, .pointer (some ⟨b, 0, none⟩)]) ∧ Chain w' s [(b, t)] ∧ w.heap.size ≤ b ∧ Below w.heap.size w w' := by
  have hd : decide ((s.size : Int) + (t.size : Int) ≤ 256) = false := decide_eq_false (by omega)
  go_enter Try.func15, Try.ntmps15
  go_wp2_with fail
  go_region_with (go_at_call 16; refine (len_raw s none (s.size : Int) _ (.inl ⟨rfl, rfl, by omega⟩)).mono ?_; rintro e w' ⟨rfl, rfl⟩)
  all_goals go_wp2
  all_goals
    refine bodyPost_ret (v := .agg #[.string s, .pointer (some ⟨w.heap.size + 1 + 1 + 1, 0, none⟩)]) (by simp [results, Try.results15, go_sem]) rfl ⟨w.heap.size + 1 + 1 + 1, rfl, ?_, by omega, ?_⟩
    · refine Chain.drew ?_
      exact chain_new (l := []) trivial t _ 1 (by simp [ln, tails]) none [] (List.suffix_refl _) rfl _ (by simp) none rfl
    · refine Below.drew ?_
      exact below4 _ _ _ _ _

theorem quiet1 {P : Program} {f : FuncId} {args : Array Value} {w : World} {n k : Nat} {v : Value}
    (h : Calls P f args (w.drewN (k + n)) fun e w' => e = .returned v ∧ w' = w.drewN (k + n)) : Calls P f args (w.drewN (k + n)) fun e w'' => e = .returned v ∧ ∃ m, w'' = w.drewN (k + m) :=
  h.mono fun _ _ ⟨he, hm⟩ => ⟨he, n, hm⟩

set_option maxHeartbeats 2000000 in
theorem add_more_raw (s t : ByteArray) (b : Nat) (pj pk : Option Addr) (m d dj dk : Int) (w : World) (hm0 : 0 ≤ m) (hn : m + t.size ≤ 2097152)
    (h3 : w.cell? ⟨b, 3, none⟩ = some (.int .i64 m)) (h4 : w.cell? ⟨b, 4, none⟩ = some (.int .i64 d)) (h5 : w.cell? ⟨b, 5, none⟩ = some (.pointer pj))
    (hdj : DepthAt w pj dj) (hsk : SkipAt w pj pk) (hdk : DepthAt w pk dk) :
    Calls Try.prog 15 #[.agg #[.string s, .pointer (some ⟨b, 0, none⟩)], .string t] w fun e w' => ∃ g d' q, e = .returned (.agg #[.string s, .pointer (some ⟨g, 0, none⟩)]) ∧ (q = some ⟨b, 0, none⟩ ∨ q = pk) ∧ w.heap.size ≤ g ∧ Below w.heap.size w w' ∧
      w'.cell? ⟨g, 0, none⟩ = some (.string s) ∧ w'.cell? ⟨g, 1, none⟩ = some (.pointer (some ⟨b, 0, none⟩)) ∧ w'.cell? ⟨g, 2, none⟩ = some (.string t) ∧ w'.cell? ⟨g, 3, none⟩ = some (.int .i64 (m + t.size)) ∧
      w'.cell? ⟨g, 4, none⟩ = some (.int .i64 d') ∧ w'.cell? ⟨g, 5, none⟩ = some (.pointer q) := by
  have hb := cell_lt h3
  have hb1 : b < w.heap.size + 1 := by omega
  have hb2 : b < w.heap.size + 1 + 1 := by omega
  have hb3 : b < w.heap.size + 1 + 1 + 1 := by omega
  go_enter Try.func15, Try.ntmps15
  go_wp2_with fail
  go_region_with (go_at_call 16; refine (len_raw s (some ⟨b, 0, none⟩) m _ (.inr ⟨b, rfl, by go_simp⟩)).mono ?_; rintro e w' ⟨rfl, rfl⟩)
  all_goals go_wp2_with fail
  all_goals go_quiet (first
    | (go_at_call_of 23 pj; refine quiet1 (depth_raw pj dj _ (hdj.below ?_)); exact below_drewN (below4 _ _ _ _ _) _)
    | (go_at_call_of 24 pj; refine quiet1 (skipOf_raw pj pk _ (hsk.below ?_)); exact below_drewN (below4 _ _ _ _ _) _)
    | (go_at_call_of 23 pk; refine quiet1 (depth_raw pk dk _ (hdk.below ?_)); exact below_drewN (below4 _ _ _ _ _) _))
  all_goals go_wp2_with (go_at_call 24; refine (skipOf_raw pj pk _ (hsk.below ?_)).mono ?_; exact below_drewN (below4 _ _ _ _ _) _; rintro e w' ⟨rfl, rfl⟩)
  iterate 3
    · refine bodyPost_ret (v := .agg #[.string s, .pointer (some ⟨w.heap.size + 1 + 1 + 1, 0, none⟩)]) (by simp [results, Try.results15, go_sem]) rfl ⟨w.heap.size + 1 + 1 + 1, wrap64 (d + 1), pk, rfl, .inr rfl, by omega, ?_, by go_simp, by go_simp, by go_simp, by go_simp, by go_simp, by go_simp⟩
      exact (((below_drewN (below4 _ _ _ _ _) _).setCell (by simp; omega) _).setCell (by simp) _).setCell (by simp) _
    · refine bodyPost_ret (v := .agg #[.string s, .pointer (some ⟨w.heap.size + 1 + 1 + 1, 0, none⟩)]) (by simp [results, Try.results15, go_sem]) rfl ⟨w.heap.size + 1 + 1 + 1, wrap64 (d + 1), some ⟨b, 0, none⟩, rfl, .inl rfl, by omega, ?_, by go_simp, by go_simp, by go_simp, by go_simp, by go_simp, by go_simp⟩
      exact ((below_drewN (below4 _ _ _ _ _) _).setCell (by simp) _).setCell (by simp) _

theorem add_more (s t : ByteArray) (l : List (Nat × ByteArray)) (w : World) (hl : l ≠ []) (hc : Chain w s l) (hn : ln s (tails l) + t.size ≤ 2097152) :
    Calls Try.prog 15 #[.agg #[.string s, .pointer (hp l)], .string t] w fun e w' => ∃ b, e = .returned (.agg #[.string s, .pointer (hp ((b, t) :: l))]) ∧ Chain w' s ((b, t) :: l) ∧ w.heap.size ≤ b ∧ Below w.heap.size w w' := by
  match l, hc with
  | (b, t0) :: r, hc =>
    obtain ⟨c0, c1, c2, c3, ⟨d, c4⟩, ⟨u, hu, c5⟩, hr⟩ := id hc
    obtain ⟨dj, hdj⟩ := (hr.suffix hu).depthAt
    obtain ⟨u2, hu2, hsk⟩ := (hr.suffix hu).skipAt
    obtain ⟨dk, hdk⟩ := ((hr.suffix hu).suffix hu2).depthAt
    refine (add_more_raw s t b (hp u) (hp u2) _ d dj dk w (by omega) (by simp only [tails, List.map_cons, ln] at hn; unfold tails; omega) c3 c4 c5 hdj hsk hdk).mono ?_
    rintro e w' ⟨g, d', q, rfl, hq, hgg, hb, g0, g1, g2, g3, g4, g5⟩
    refine ⟨g, rfl, ⟨g0, g1, g2, ?_, ⟨d', g4⟩, ?_, hc.below hb⟩, hgg, hb⟩
    · rw [g3]; simp [tails, ln]
    · rcases hq with rfl | rfl
      · exact ⟨_, List.suffix_refl _, g5⟩
      · exact ⟨u2, (hu2.trans hu).trans (List.suffix_cons _ _), g5⟩

/-- ADD: the name that is added to, and what it comes to. -/
theorem add_any (s t : ByteArray) (l : List (Nat × ByteArray)) (w : World) (hc : Chain w s l) (hn : ln s (tails l) + t.size ≤ 2097152) :
    Calls Try.prog 15 #[.agg #[.string s, .pointer (hp l)], .string t] w fun e w' => ∃ s' l', e = .returned (.agg #[.string s', .pointer (hp l')]) ∧ (s', tails l') = addN s (tails l) t ∧ Chain w' s' l' ∧ (∀ x ∈ l', x ∈ l ∨ w.heap.size ≤ x.1) ∧ Below w.heap.size w w' := by
  by_cases h0 : l = []
  · subst h0
    by_cases h1 : s.size + t.size ≤ 256
    · refine (add_fits s t w h1).mono ?_
      rintro e w' ⟨rfl, hb⟩
      exact ⟨s ++ t, [], rfl, by simp [addN, tails, h1], trivial, by simp, hb⟩
    · refine (add_first s t w (by omega) hn).mono ?_
      rintro e w' ⟨b, rfl, hch, hbb, hb⟩
      exact ⟨s, [(b, t)], rfl, by simp [addN, tails, h1], hch, by simpa using hbb, hb⟩
  · refine (add_more s t l w h0 hc hn).mono ?_
    rintro e w' ⟨b, rfl, hch, hbb, hb⟩
    refine ⟨s, (b, t) :: l, rfl, by simp [addN, tails, h0], hch, ?_, hb⟩
    intro x hx
    rcases List.mem_cons.1 hx with rfl | hx
    · exact .inr hbb
    · exact .inl hx

theorem Chain.setCell {w : World} {s : ByteArray} {a : Addr} (v : Value) : ∀ {l : List (Nat × ByteArray)}, Chain w s l → (∀ x ∈ l, x.1 ≠ a.block) → Chain (w.setCell a v) s l
  | [], _, _ => trivial
  | (b, t) :: r, ⟨c0, c1, c2, c3, ⟨d, c4⟩, ⟨u, hu, c5⟩, hr⟩, hne => by
    have hb : b ≠ a.block := hne (b, t) (by simp)
    have e := fun (o : Nat) => World.cell?_of_block (w := w) (w' := w.setCell a v) (a := ⟨b, o, none⟩) (Below.heap_setCell w a v b hb)
    exact ⟨(e 0).trans c0, (e 1).trans c1, (e 2).trans c2, (e 3).trans c3, ⟨d, (e 4).trans c4⟩, ⟨u, hu, (e 5).trans c5⟩, Chain.setCell v hr (fun x hx => hne x (by simp [hx]))⟩
end Go.Proofs.Qxb6603935a
