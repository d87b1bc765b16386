import Derived.Test.Qxb6603935aPart
import Derived.Lib.AppendStr
import Derived.Laws.IdiomStrings
namespace Go.Proofs.Qxb6603935a
open Go.RowKit

theorem take_byte (s : ByteArray) (k : Nat) (h : k < s.size) : s.data.toList.take (k + 1) = s.data.toList.take k ++ [s[k]] := by
  rw [List.take_succ_eq_append_getElem (by rw [size_list]; exact h)]; rfl
theorem byte_step (p s : ByteArray) (k : Nat) (hp : k < p.size) (hs : k < s.size) (h : p.data.toList.take k = s.data.toList.take k) :
    (((p[k].toNat : Int) != (s[k].toNat : Int)) = false → p.data.toList.take (k + 1) = s.data.toList.take (k + 1)) ∧ (((p[k].toNat : Int) != (s[k].toNat : Int)) = true → pre p.data.toList s.data.toList = false) := by
  rw [take_byte p k hp, take_byte s k hs, h]
  constructor
  · intro hh
    have e : (p[k].toNat : Int) = (s[k].toNat : Int) := by simpa using hh
    have e2 : p[k] = s[k] := UInt8.toNat_inj.1 (by omega)
    rw [e2]
  · intro hh
    have e : ¬ (p[k].toNat : Int) = (s[k].toNat : Int) := by simpa using hh
    refine pre_false fun hx => ?_
    obtain ⟨x, hx⟩ := hx
    have e3 : s.data.toList.take (k + 1) = p.data.toList.take (k + 1) := by
      rw [← hx, List.take_append_of_le_length (by rw [size_list]; omega)]
    rw [take_byte p k hp, take_byte s k hs, h] at e3
    have e4 := List.append_cancel_left e3
    simp only [List.cons.injEq, and_true] at e4
    rw [e4] at e
    exact e rfl

set_option maxHeartbeats 400000 in
theorem isPrefix_loop (p s : ByteArray) (w : World) (h : p.size ≤ s.size) (hp : p.size ≤ 2097152) :
    Calls Try.prog 13 #[.string p, .string s] w fun e w' => e = .returned (.bool (pre p.data.toList s.data.toList)) ∧ Below w.heap.size w w' := by
  have hd : decide (s.size < p.size) = false := decide_eq_false (by omega)
  obtain ⟨res, hres⟩ : ∃ res, res = pre p.data.toList s.data.toList := ⟨_, rfl⟩
  have HRES : Hid (res = pre p.data.toList s.data.toList) := hres
  rw [← hres]
  clear hres
  go_enter Try.func13, Try.ntmps13
  go_wp2_with fail
  go_loopg [5] p.size (fun g i wr => ∃ k : Nat, k ≤ p.size ∧ g = p.size - k ∧ i = .int .i64 k ∧ Hid (p.data.toList.take k = s.data.toList.take k) ∧ Below w.heap.size w wr)
  case atStart => exact ⟨0, Nat.zero_le _, rfl, rfl, rfl, Below.refl _ _⟩
  case round =>
    obtain ⟨k, hk, hg, rfl, HT, hbel⟩ := hrel
    by_cases hlt : k < p.size
    · have hA : (k : Int) < (p.size : Int) := by omega
      have hB : (k : Int) < (s.size : Int) := by omega
      have hC : k < s.size := by omega
      have HZ : Hid _ := byte_step p s k hlt hC HT.out
      go_wp2_with fail
      go_region
      all_goals go_wp2
      · go_ret
        have e : res = false := by rw [HRES.out]; exact HZ.out.2 (by assumption)
        exact ⟨by rw [e]; rfl, hbel.drew⟩
      · go_roundg (p.size - (k + 1))
        case measure => omega
        case rel => exact ⟨k + 1, by omega, rfl, by go_num, HZ.out.1 (by assumption), hbel.drew⟩
    · go_wp2
      go_ret
      have e : res = true := by
        rw [HRES.out]
        apply pre_true
        apply cmp_end
        have := HT.out
        rwa [show k = p.data.toList.length by rw [size_list]; omega] at this
      exact ⟨by rw [e]; rfl, hbel⟩

/-- b1IsPrefix. -/
theorem isPrefix_any (p s : ByteArray) (w : World) (hs : s.size ≤ 2097152) :
    Calls Try.prog 13 #[.string p, .string s] w fun e w' => e = .returned (.bool (pre p.data.toList s.data.toList)) ∧ Below w.heap.size w w' := by
  by_cases h : p.size ≤ s.size
  · exact isPrefix_loop p s w h (by omega)
  · rw [pre_long (by rw [size_list, size_list]; omega)]
    have h' : s.size < p.size := by omega
    go_enter Try.func13, Try.ntmps13
    go_wp2
    go_ret
    exact ⟨rfl, Below.refl _ _⟩

/-! ### b1Spell -/
theorem Try.info5 : (Try.prog.info? 5).map (fun i => (i.zero, i.size, i.bytes)) = some (some (.int .u8 0), 1, 1) := by kernel_rfl

def byteCells (l : List UInt8) : List Value := l.map fun b => Value.int .u8 b.toNat
theorem byteCells_append (l m : List UInt8) : byteCells (l ++ m) = byteCells l ++ byteCells m := by simp [byteCells]

/-- Behind an append onto the call's own row: what is older is as it was. -/
theorem below_own {w0 w w' : World} {B base : Nat} {e : TypeId} {size n : Nat} {v : Value} {xs : List Value} (h : Below B w0 w) (hB : B ≤ base) (hbase : B ≤ w.heap.size) (hown : w.ownsRow base e size v n xs) (hg : w.grownBy w' v.ownBlock) : Below B w0 w' :=
  h.grown hg hbase (fun k hk => Nat.le_trans hB (hown.lt k hk).1)

/-- The row's value at the end: what 'string(buf)' makes of it. -/
theorem own_string {w : World} {base : Nat} {v : Value} {n : Nat} {l : List UInt8} (h : w.ownsRow base 5 1 v n (byteCells l)) :
    ∃ r : ByteArray, (convert 36 9 v).run Try.prog w = .ok (.string r) w ∧ r.data.toList = l := by
  have hl : l.length = n := by have := h.1; simpa [byteCells] using this
  rcases h.2 with ⟨rfl, h0⟩ | ⟨g, cap, cur, rfl, _, hg, hnc, hcm, hcs, htake⟩
  · have : l = [] := List.eq_nil_of_length_eq_zero (by omega)
    subst this
    exact ⟨⟨#[]⟩, by kernel_rfl, rfl⟩
  · subst hl
    refine ⟨⟨l.toArray⟩, run_convert_bytes_back w 36 9 5 ⟨g, 0, none⟩ cap l Try.underlying36 Try.underlying5 Try.underlying9 (fun j hj => ?_), by simp⟩
    have := h.cells (g := g) rfl j (.int .u8 (l[j].toNat : Int)) (by simp [byteCells, List.getElem?_eq_getElem hj])
    exact this

set_option maxHeartbeats 1000000 in
theorem spell_full (s x : ByteArray) (b off : Nat) (ts : List ByteArray) (cap : Nat) (w : World) (hs : ∀ k, k < ts.length → w.cell? ⟨b, off + k, none⟩ = some (.string (ts.getD k ByteArray.empty))) (hl : ts.length ≤ 1048576) (hn : s.size + tot 0 ts + x.size ≤ 2097152) :
    Calls Try.prog 11 #[.string s, .slice (some ⟨b, off, none⟩) ts.length cap, .string x] w fun e w' => (∃ r : ByteArray, e = .returned (.string r) ∧ r.data.toList = modelL s ts ++ x.data.toList) ∧ Below w.heap.size w w' := by
  obtain ⟨n, hn'⟩ : ∃ n, n = ts.length := ⟨_, rfl⟩
  have HN : Hid (n = ts.length) := hn'
  rw [← hn'] at hl ⊢
  clear hn'
  have HS : Hid (∀ k, k < ts.length → w.cell? ⟨b, off + k, none⟩ = some (.string (ts.getD k ByteArray.empty))) := hs
  have HT : Hid (s.size + tot 0 ts + x.size ≤ 2097152) := hn
  have hsx : s.size + x.size ≤ 2097152 := by omega
  clear hs hn
  go_enter Try.func11, Try.ntmps11
  go_wp2_with fail
  go_loop [7, 8] (fun t i => ∃ k z : Nat, k ≤ n ∧ i = .int .i64 k ∧ t = .int .i64 (z : Int) ∧ Hid (z = s.size + x.size + tot 0 (ts.take k)) ∧ z ≤ 2097152) (fun _ i => n - (intOf i).toNat)
  case atStart => exact ⟨0, s.size + x.size, Nat.zero_le _, rfl, by go_num, by unfold Hid; simp [tot], hsx⟩
  case round =>
    obtain ⟨k, z, hk, rfl, rfl, HZ, hz⟩ := hrel
    by_cases hlt : k < n
    · have hck := HS.out k (by rw [← HN.out]; exact hlt)
      have HT2 : Hid (tot 0 (ts.take (k + 1)) = tot 0 (ts.take k) + ((ts.getD k ByteArray.empty).size + 0)) := tot_next 0 ts k (by rw [← HN.out]; exact hlt)
      have hzt : z + (ts.getD k ByteArray.empty).size ≤ 2097152 := by
        have h1 := HT2.out; have h2 := HZ.out; have h3 := HT.out; have h4 := tot_take 0 ts (k + 1); omega
      generalize ts.getD k ByteArray.empty = t at hck HT2 hzt
      go_wp2
      go_round
      case rel => exact ⟨k + 1, z + t.size, by omega, by go_num, by go_num, by unfold Hid; rw [HT2.out, HZ.out]; omega, by omega⟩
      case measure => simp [intOf]; omega
    · have hkn : k = n := by omega
      subst hkn
      have HZ2 : Hid (z = s.size + x.size + tot 0 ts) := by have := HZ.out; rwa [HN.out, List.take_length] at this
      clear HZ hlt hk
      obtain ⟨i0, hi, hz0, hz1, hz2⟩ := info_parts Try.info5
      have HI : Hid _ := hi
      have HZ0 : Hid _ := hz0
      have HZ1 : Hid _ := hz1
      have HZB : Hid _ := hz2
      clear hi hz0 hz1 hz2
      go_wp2_with (first
        | (at_make; refine wpList_make_own _ rfl (.const (.int .i64 0)) (.tmp 29) 36 rfl w.heap.size 5 i0 (.int .u8 0) 1 Try.underlying36 HI.out HZ0.out HZ1.out .i64 .i64 (z : Int) z rfl rfl rfl (by rw [HZB.out]; omega) (by unfold maxLen; omega) (Nat.le_refl _) ?_; intro w1 hown1 hgr1)
        | (at_builtin; refine Lib.wpList_append_own_string _ rfl (.tmp 31) (.tmp 32) 36 9 rfl w.heap.size 5 i0 Try.underlying36 Try.underlying9 HI.out HZ0.out HZ1.out HZB.out _ 0 [] rfl hown1 s rfl (by unfold maxLen; omega) (by omega) hgr1.size ?_; intro v1 w2 hown2 hgr2 _hv))
      have hb1 : Below w.heap.size w w1 := (Below.refl _ _).grown hgr1 (Nat.le_refl _) (fun k hk => by cases hk)
      have HB2 : Hid (Below w.heap.size w w2) := below_own hb1 (Nat.le_refl _) hgr1.size hown1 hgr2
      have HO2 : Hid (w2.ownsRow w.heap.size 5 1 v1 (s.size + tot 0 (ts.take 0)) (byteCells (modelL s (ts.take 0)))) := by
        have := hown2
        simp only [List.nil_append, Nat.zero_add] at this
        exact this
      clear hown1 hgr1 hown2 hgr2 hb1
      go_loopg [9, 10] k (fun g v i wr => ∃ c : Nat, c ≤ k ∧ g = k - c ∧ i = .int .i64 c ∧ Hid (wr.ownsRow w.heap.size 5 1 v (s.size + tot 0 (ts.take c)) (byteCells (modelL s (ts.take c)))) ∧ Below w.heap.size w wr)
      case atStart => exact ⟨0, Nat.zero_le _, rfl, rfl, HO2.out, HB2.out⟩
      case round =>
        obtain ⟨c, hck, hg, rfl, HO, hbel⟩ := hrel
        by_cases hlt : c < k
        · have hcl : c < ts.length := by rw [← HN.out]; exact hlt
          have hcell := HS.out c hcl
          have hcell2 := (hbel.cell (p := ⟨b, off + c, none⟩) (cell_lt hcell)).trans hcell
          have HO3 : Hid (byteCells (modelL s (ts.take (c + 1))) = byteCells (modelL s (ts.take c)) ++ Lib.strCells (ts.getD c ByteArray.empty)) := by
            unfold Hid; rw [modelL_next s ts c hcl, byteCells_append]; rfl
          have HO4 : Hid (s.size + tot 0 (ts.take (c + 1)) = s.size + tot 0 (ts.take c) + (ts.getD c ByteArray.empty).size) := by
            unfold Hid; rw [tot_next 0 ts c hcl]; omega
          have hbd : s.size + tot 0 (ts.take c) + (ts.getD c ByteArray.empty).size ≤ 2097152 := by
            have h1 := HO4.out; have h2 := tot_take 0 ts (c + 1); have h3 := HT.out; omega
          generalize ts.getD c ByteArray.empty = t at hcell2 HO3 HO4 hbd
          generalize hN' : s.size + tot 0 (ts.take c) = m at HO HO4 hbd
          generalize hX' : byteCells (modelL s (ts.take c)) = xs at HO HO3
          clear hcell hcl hN' hX'
          go_wp2_with (at_builtin; refine Lib.wpList_append_own_string _ rfl (.tmp 40) (.tmp 44) 36 9 rfl w.heap.size 5 i0 Try.underlying36 Try.underlying9 HI.out HZ0.out HZ1.out HZB.out _ m xs rfl HO.out t rfl (by unfold maxLen; omega) (by omega) hbel.size ?_; intro v3 w3 hown3 hgr3 _hv)
          go_roundg (k - (c + 1))
          case measure => omega
          case rel => exact ⟨c + 1, by omega, rfl, by go_num, by rw [HO3.out, HO4.out]; exact hown3, below_own hbel (Nat.le_refl _) hbel.size HO.out hgr3⟩
        · have hcn : c = k := by omega
          subst hcn
          have HO5 : Hid (wr.ownsRow w.heap.size 5 1 u9 (s.size + tot 0 ts) (byteCells (modelL s ts))) := by have := HO.out; rwa [HN.out, List.take_length] at this
          have hbd : s.size + tot 0 ts + x.size ≤ 2097152 := HT.out
          clear HO HO2 HB2 hlt hck hg _hv
          generalize hm : s.size + tot 0 ts = m at HO5 hbd
          clear hm
          go_wp2_with (at_builtin; refine Lib.wpList_append_own_string _ rfl (.tmp 46) (.tmp 47) 36 9 rfl w.heap.size 5 i0 Try.underlying36 Try.underlying9 HI.out HZ0.out HZ1.out HZB.out _ m _ rfl HO5.out x rfl (by unfold maxLen; omega) (by omega) hbel.size ?_; intro v3 w3 hown3 hgr3 _hv; obtain ⟨r, hcv, hr⟩ := own_string (l := modelL s ts ++ x.data.toList) (by rw [byteCells_append]; exact hown3); have HR : Hid (r.data.toList = modelL s ts ++ x.data.toList) := hr; clear hr)
          go_ret
          exact ⟨⟨r, rfl, HR.out⟩, below_own hbel (Nat.le_refl _) hbel.size HO5.out hgr3⟩

set_option maxHeartbeats 1000000 in
theorem spell_nil (s x : ByteArray) (ao : Option Addr) (cap : Nat) (w : World) (hn : s.size + x.size ≤ 2097152) :
    Calls Try.prog 11 #[.string s, .slice ao 0 cap, .string x] w fun e w' => (∃ r : ByteArray, e = .returned (.string r) ∧ r.data.toList = s.data.toList ++ x.data.toList) ∧ Below w.heap.size w w' := by
  go_enter Try.func11, Try.ntmps11
  go_wp2_with fail
  go_loop [7, 8] (fun t i => i = .int .i64 0 ∧ t = .int .i64 ((s.size : Int) + (x.size : Int))) (fun _ _ => 0)
  case atStart => exact ⟨rfl, rfl⟩
  case round =>
    obtain ⟨rfl, rfl⟩ := hrel
    obtain ⟨i0, hi, hz0, hz1, hz2⟩ := info_parts Try.info5
    have HI : Hid _ := hi
    have HZ0 : Hid _ := hz0
    have HZ1 : Hid _ := hz1
    have HZB : Hid _ := hz2
    clear hi hz0 hz1 hz2
    go_wp2_with (first
      | (at_make; refine wpList_make_own _ rfl (.const (.int .i64 0)) (.tmp 29) 36 rfl w.heap.size 5 i0 (.int .u8 0) 1 Try.underlying36 HI.out HZ0.out HZ1.out .i64 .i64 ((s.size : Int) + (x.size : Int)) (s.size + x.size) rfl rfl (by omega) (by rw [HZB.out]; omega) (by unfold maxLen; omega) (Nat.le_refl _) ?_; intro w1 hown1 hgr1)
      | (at_builtin; refine Lib.wpList_append_own_string _ rfl (.tmp 31) (.tmp 32) 36 9 rfl w.heap.size 5 i0 Try.underlying36 Try.underlying9 HI.out HZ0.out HZ1.out HZB.out _ 0 [] rfl hown1 s rfl (by unfold maxLen; omega) (by omega) hgr1.size ?_; intro v1 w2 hown2 hgr2 _hv))
    have hb1 : Below w.heap.size w w1 := (Below.refl _ _).grown hgr1 (Nat.le_refl _) (fun k hk => by cases hk)
    have HB2 : Hid (Below w.heap.size w w2) := below_own hb1 (Nat.le_refl _) hgr1.size hown1 hgr2
    have HO2 : Hid (w2.ownsRow w.heap.size 5 1 v1 s.size (byteCells s.data.toList)) := by
      have := hown2
      simp only [List.nil_append, Nat.zero_add] at this
      exact this
    clear hown1 hgr1 hown2 hgr2 hb1 _hv
    go_loopg [9, 10] 0 (fun g v i wr => i = .int .i64 0 ∧ Hid (wr.ownsRow w.heap.size 5 1 v s.size (byteCells s.data.toList)) ∧ Below w.heap.size w wr)
    case atStart => exact ⟨rfl, HO2.out, HB2.out⟩
    case round =>
      obtain ⟨rfl, HO5, hbel⟩ := hrel
      clear HO2 HB2
      go_wp2_with (at_builtin; refine Lib.wpList_append_own_string _ rfl (.tmp 46) (.tmp 47) 36 9 rfl w.heap.size 5 i0 Try.underlying36 Try.underlying9 HI.out HZ0.out HZ1.out HZB.out _ s.size _ rfl HO5.out x rfl (by unfold maxLen; omega) (by omega) hbel.size ?_; intro v3 w3 hown3 hgr3 _hv; obtain ⟨r, hcv, hr⟩ := own_string (l := s.data.toList ++ x.data.toList) (by rw [byteCells_append]; exact hown3); have HR : Hid (r.data.toList = s.data.toList ++ x.data.toList) := hr; clear hr)
      go_ret
      exact ⟨⟨r, rfl, HR.out⟩, below_own hbel (Nat.le_refl _) hbel.size HO5.out hgr3⟩

/-- b1Spell. -/
theorem spell_any (s x : ByteArray) (ao : Option Addr) (ts : List ByteArray) (cap : Nat) (w : World) (hs : Strs w ao ts) (hl : ts.length ≤ 1048576) (hn : s.size + tot 0 ts + x.size ≤ 2097152) :
    Calls Try.prog 11 #[.string s, .slice ao ts.length cap, .string x] w fun e w' => (∃ r : ByteArray, e = .returned (.string r) ∧ r.data.toList = modelL s ts ++ x.data.toList) ∧ Below w.heap.size w w' := by
  rcases hs with rfl | ⟨b, off, rfl, hc⟩
  · exact spell_nil s x ao cap w (by simpa [tot] using hn)
  · exact spell_full s x b off ts cap w hc hl hn
end Go.Proofs.Qxb6603935a
