import Derived.Test.Qxb6603997aRZS
import Derived.OrdersHeld
namespace Go.Proofs.Qxb6603997a
open Go.RowKit

/-! A region whose LAST operation writes a cell that the region loads: the loads may be taken first under a condition S that holds behind every operation but that last one, which waits for them all. -/
section
variable {P : Program} {ops : Array Oper} {Q : Exit → Act → World → Prop} {md : Region.Mode} {S : World → Prop} {jl : Nat}

/-- Whatever order is picked from here on; S holds behind every operation but number jl. -/
def anyBut (P : Program) (md : Region.Mode) (ops : Array Oper) (Q : Exit → Act → World → Prop) (S : World → Prop) (jl : Nat) : Nat → Array Bool → Act → World → Prop
  | 0, listed, a, w => Region.ready md ops listed = [] ∧ Q .normal a w
  | n + 1, listed, a, w => (Region.ready md ops listed = [] → Q .normal a w) ∧
    ∀ i ∈ Region.ready md ops listed, wpOp P ops Q i (fun a' w' => (i = jl ∨ S w') ∧ anyBut P md ops Q S jl n (listed.setIfInBounds i true) a' w') a w

theorem wpAny_of_but : ∀ (n : Nat) (listed : Array Bool) (a : Act) (w : World), anyBut P md ops Q S jl n listed a w → wpAny P md ops Q n listed a w
  | 0, _, _, _, h => h
  | n + 1, _, _, _, h => ⟨h.1, fun i hi => wpOp_mono (fun a' w' h' => wpAny_of_but n _ a' w' h'.2) (h.2 i hi)⟩

/-- Number jl waits for number i. -/
def waits (md : Region.Mode) (ops : Array Oper) (jl i : Nat) : Bool :=
  match ops[jl]? with
  | some o => o.after.any fun e => Region.binds md e && e.on == i
  | none => false

theorem but_first {i : Nat} {oi : Oper} {v : Value} (hi : ops[i]? = some oi) (hsel : Region.noSelect ops = true) (hQ : ∀ c a w, Q (.panic c) (a.put oi.dst v) w → Q (.panic c) a w) (hw : waits md ops jl i = true) (S0 : i ≠ jl) :
    ∀ (n : Nat) (listed : Array Bool) (a : Act) (w : World),
      (∀ j oj, ops[j]? = some oj → j ≠ i → listed.getD j true = false → (∀ e ∈ oj.after, Region.binds md e = true → e.on ≠ i) → oi.apart ops oj = true) →
      i ∈ Region.ready md ops listed → YieldsIf P ops S oi v a → S w →
      anyBut P md ops Q S jl n (listed.setIfInBounds i true) (a.put oi.dst v) w → anyBut P md ops Q S jl (n + 1) listed a w := by
  have wait : ∀ {j : Nat} {oj : Oper}, ops[j]? = some oj → (∀ e ∈ oj.after, Region.binds md e = true → e.on ≠ i) → j ≠ jl := by
    intro j oj hj hno e
    subst e
    unfold waits at hw
    rw [hj] at hw
    simp only [Array.any_eq_true'] at hw
    obtain ⟨x, hx, h2⟩ := hw
    simp only [Bool.and_eq_true, beq_iff_eq] at h2
    exact hno x hx h2.1 h2.2
  intro n
  induction n with
  | zero =>
    intro listed a w _ hr hy hS H
    refine ⟨fun h => (by rw [h] at hr; cases hr), fun j hj => ?_⟩
    by_cases hji : j = i
    · subst hji; exact hy.wpOp hi hS ⟨.inr hS, H⟩
    · have := ready_mono hj hji
      rw [H.1] at this
      cases this
  | succ n ih =>
    intro listed a w hfree hr hy hS H
    refine ⟨fun h => (by rw [h] at hr; cases hr), fun j hj => ?_⟩
    by_cases hji : j = i
    · subst hji; exact hy.wpOp hi hS ⟨.inr hS, H⟩
    · have h1 := H.2 j (ready_mono hj hji)
      obtain ⟨hjun, oj, hoj, hall⟩ := mem_ready.1 hj
      have hnot : ∀ e ∈ oj.after, Region.binds md e = true → e.on ≠ i := fun e he hb heq => by
        have h1 := hall e he hb
        have h0 := (mem_ready.1 hr).1
        rw [heq] at h1
        rcases Nat.lt_or_ge i listed.size with h' | h'
        · simp [h'] at h0 h1; rw [h0] at h1; cases h1
        · simp [Array.getElem?_eq_none h'] at h1
      have h2 := wpOp_putIf hoj (hfree j oj hoj hji hjun hnot) (fun cs b => Region.noSelect_spec hsel i oi cs b hi) (fun cs b => Region.noSelect_spec hsel j oj cs b hoj) hQ hy h1
      have hfree' : ∀ k ok, ops[k]? = some ok → k ≠ i → (listed.setIfInBounds j true).getD k true = false → (∀ e ∈ ok.after, Region.binds md e = true → e.on ≠ i) → oi.apart ops ok = true := fun k ok hk hki hun hno => by
        refine hfree k ok hk hki ?_ hno
        by_cases hjk : j = k
        · subst hjk; exact hjun
        · rw [getD_set_ne true hjk] at hun; exact hun
      have hjl := wait hoj hnot
      refine wpOp_mono (fun a' w' h3 => ?_) h2
      have hS' : S w' := h3.2.1.resolve_left hjl
      refine ⟨.inr hS', ih (listed.setIfInBounds j true) a' w' hfree' (ready_mono hr (Ne.symm hji)) h3.1 hS' ?_⟩
      rw [Array.setIfInBounds_comm _ _ hji]
      exact h3.2.2

/-- Number i may be taken first: what is to be reckoned. -/
def mayFirst (md : Region.Mode) (ops : Array Oper) (listed : Array Bool) (i jl : Nat) : Bool :=
  Region.noSelect ops && (Region.free md ops listed i && ((Region.ready md ops listed).contains i && (waits md ops jl i && (i != jl))))

theorem but_take {i : Nat} {oi : Oper} {v : Value} {n : Nat} {listed : Array Bool} {a : Act} {w : World} (hi : ops[i]? = some oi) (hb : mayFirst md ops listed i jl = true)
    (hQ : ∀ c a w, Q (.panic c) (a.put oi.dst v) w → Q (.panic c) a w) (hg : Region.wanted oi (yielded ops a.tmps) = true) (hy : ∀ w, S w → (execOp a.eval oi).run P w = .ok (.value v) w) (hS : S w)
    (h : anyBut P md ops Q S jl n (listed.setIfInBounds i true) (a.put oi.dst v) w) : anyBut P md ops Q S jl (n + 1) listed a w := by
  unfold mayFirst at hb
  simp only [Bool.and_eq_true, bne_iff_ne, ne_eq] at hb
  obtain ⟨h1, h2, h3, h4, h5⟩ := hb
  exact but_first hi h1 hQ h4 h5 n listed a w (Region.free_spec hi h2) (by simpa using h3) (.inl ⟨hg, hy⟩) hS h

/-- One operation alone may come up. -/
theorem but_step {i : Nat} {o : Oper} {n : Nat} {listed : Array Bool} {a : Act} {w : World} (ho : ops[i]? = some o) (hr : Region.ready md ops listed = [i])
    (h : ∀ K : Act → World → Prop, (∀ a w, (i = jl ∨ S w) → anyBut P md ops Q S jl n (listed.setIfInBounds i true) a w → K a w) → if Region.wanted o (yielded ops a.tmps) = true then Oper.wp P o a w K Q else K (a.put o.dst undef) w) :
    anyBut P md ops Q S jl (n + 1) listed a w := by
  refine ⟨fun h0 => (by rw [h0] at hr; cases hr), fun j hj => ?_⟩
  rw [hr] at hj
  obtain rfl := List.mem_singleton.1 hj
  exact wpOp_step ho fun K' hK => h K' fun a w h1 h2 => hK a w ⟨h1, h2⟩

theorem but_done {n : Nat} {listed : Array Bool} {a : Act} {w : World} (hr : Region.ready md ops listed = []) (h : Q .normal a w) : anyBut P md ops Q S jl n listed a w := by
  cases n with
  | zero => exact ⟨hr, h⟩
  | succ n => exact ⟨fun _ => h, by rw [hr]; simp⟩

theorem but_region {id : Nat} {a : Act} {w : World} (S : World → Prop) (jl : Nat) (hm : P.follows .mixedOrders = true) (h : anyBut P .any ops Q S jl ops.size (Array.replicate ops.size false) a w.drew) : (Code.region id ops true).wp P Q a w :=
  wp_region_any hm (wpAny_of_but _ _ _ _ h)
end
end Go.Proofs.Qxb6603997a
