import Derived.Test.Qxb6603935aLaw5
namespace Go.Proofs.Qxb6603935a
open Go.RowKit

theorem bytes_of (w : World) (t : ByteArray) (n : Nat) (hn : t.size = n) : ∃ cap W1, (convert 9 36 (.string t)).run Try.prog w = .ok (.slice (some ⟨w.heap.size, 0, none⟩) n cap) W1 ∧
    (∀ j, j < n → W1.cell? ⟨w.heap.size, j, none⟩ = some (.int .u8 ((t.data.toList.getD j 0).toNat : Int))) ∧ (∀ j, j < n → W1.frozen? ⟨w.heap.size, j, none⟩ = false) ∧ Below w.heap.size w W1 := by
  subst hn
  refine ⟨_, _, run_bytes_of_string w 9 36 5 t Try.underlying9 Try.underlying36 Try.underlying5, fun j hj => ?_, fun j hj => ?_, ?_⟩
  · have e := World.cell?_alloc_mark w.drew (bytesRow t (grownCap w t.size 0 5)) 5 ((bytesRow t (grownCap w t.size 0 5)).size, (bytesRow t (grownCap w t.size 0 5)).size + 1) j
    refine e.trans ?_
    rw [bytesRow_at t _ j hj]
    congr 3
    rw [List.getD_eq_getElem?_getD, List.getElem?_eq_getElem (by rw [size_list]; exact hj)]
    rfl
  · have e := World.frozen?_alloc_mark w.drew (bytesRow t (grownCap w t.size 0 5)) 5 (bytesRow t (grownCap w t.size 0 5)).size ((bytesRow t (grownCap w t.size 0 5)).size + 1) j
    refine e.trans ?_
    have : t.size ≤ (bytesRow t (grownCap w t.size 0 5)).size := by
      unfold bytesRow; rw [Array.size_append, Array.size_map]; show t.size ≤ t.size + _; omega
    simp; omega
  · exact ((Below.refl _ _).drew).alloc (Nat.le_refl _) _

theorem xor1 : ∀ n : Fin 256, bits .xor .u8 (n.val : Int) 1 = (((UInt8.ofNat n.val) ^^^ 1).toNat : Int) ∧ (UInt8.ofNat n.val) ^^^ 1 ≠ UInt8.ofNat n.val := by decide +kernel
theorem xor_byte (b : UInt8) : bits .xor .u8 (b.toNat : Int) 1 = ((b ^^^ 1).toNat : Int) ∧ b ^^^ 1 ≠ b := by
  have h := xor1 ⟨b.toNat, b.toNat_lt⟩
  simpa using h

/-- The bytes of the cut with its last byte changed. -/
theorem bad_string (W : World) (N i cp : Nat) (r : ByteArray) (bc : UInt8) (hi : i < r.size)
    (hc : ∀ j, j < i + 1 → W.cell? ⟨N, j, none⟩ = some (.int .u8 (((r.extract 0 (i + 1)).data.toList.getD j 0).toNat : Int))) :
    (convert 36 9 (.slice (some ⟨N, 0, none⟩) (i + 1) cp)).run Try.prog (W.setCell ⟨N, i, none⟩ (.int .u8 (bc.toNat : Int))) = .ok (.string ⟨(r.data.toList.take i ++ [bc]).toArray⟩) (W.setCell ⟨N, i, none⟩ (.int .u8 (bc.toNat : Int))) := by
  have hlen : (r.data.toList.take i ++ [bc]).length = i + 1 := by rw [List.length_append, List.length_take, size_list]; simp; omega
  have h := run_convert_bytes_back (P := Try.prog) (W.setCell ⟨N, i, none⟩ (.int .u8 (bc.toNat : Int))) 36 9 5 ⟨N, 0, none⟩ cp (r.data.toList.take i ++ [bc]) Try.underlying36 Try.underlying5 Try.underlying9 (fun j hj => ?_)
  · rw [hlen] at h; exact h
  · rw [hlen] at hj
    rw [Addr.add_lit, Nat.zero_add]
    by_cases h : j = i
    · subst h
      rw [World.cell?_setCell_same _ _ _ (hc j hj)]
      rw [List.getElem_append_right (by rw [List.length_take]; omega)]
      simp
    · rw [World.cell?_setCell_other _ _ _ _ (fun e => h (by injection e with _ e2 _; exact e2.symm)), hc j hj, Lib.extract_data]
      rw [List.getElem_append_left (by rw [List.length_take, size_list]; omega)]
      congr 3
      rw [List.drop_zero, List.getD_eq_getElem?_getD, List.getElem?_take, if_pos (by omega), List.getElem?_eq_getElem (by rw [size_list]; omega)]
      simp

theorem bad_pre (r : ByteArray) (i : Nat) (bc : UInt8) (hi : i < r.size) (h : bc ≠ (r.extract 0 (i + 1)).data.toList.getD i 0) : pre (ByteArray.mk (r.data.toList.take i ++ [bc]).toArray).data.toList r.data.toList = false := by
  refine pre_false fun hp => h ?_
  rw [Lib.extract_data, List.drop_zero, List.getD_eq_getElem?_getD, List.getElem?_take, if_pos (by omega)]
  simp only at hp
  obtain ⟨z, hz⟩ := hp
  rw [← hz, List.append_assoc, List.getElem?_append_right (by rw [List.length_take]; omega), List.length_take, size_list, Nat.min_eq_left (by omega), Nat.sub_self]
  rfl

set_option maxRecDepth 100000 in
set_option maxHeartbeats 2000000 in
theorem law4_any (s : ByteArray) (ao : Option Addr) (ts : List ByteArray) (cap : Nat) (x : ByteArray) (j : Int) (w : World) (hs : Strs w ao ts) (hl : ts.length ≤ maxLen) (hnil : ao = none → cap = 0) :
    Calls Try.prog 4 #[.string s, .slice ao ts.length cap, .string x, .int .i64 j] w fun e w' => e = .returned (.bool true) ∧ Below w.heap.size w w' := by
  have hnil2 : ao = none → cap = 0 ∧ ts = [] := fun h => ⟨hnil h, by
    rcases hs with h0 | ⟨b, off, h1, _⟩
    · exact h0
    · rw [h] at h1; cases h1⟩
  have hz := zzBytes14 s ao ts cap x j w hs hl
  have hsz := b1Size_any s ao ts cap w hs hl
  have HS : Hid (Strs w ao ts) := hs
  have HNIL : Hid (ao = none → cap = 0 ∧ ts = []) := hnil2
  clear hs hnil hnil2 hl
  go_enter Try.func4, Try.ntmps4
  go_wp2_with fail
  refine hz.mono ?_
  clear hz
  rintro e wx ⟨⟨x, rfl⟩, hwx⟩
  rw [hwx]
  clear hwx wx
  cases x
  · go_wp2
    go_ret
    exact ⟨rfl, Below.refl _ _⟩
  go_wp2_with fail
  refine hsz.mono ?_
  clear hsz
  rintro e wx ⟨⟨m, rfl, hm⟩, hwx⟩
  rw [hwx]
  clear hwx wx
  rcases hm with rfl | ⟨hm, hm2⟩
  · go_wp2
    go_ret
    exact ⟨rfl, Below.refl _ _⟩
  have hmd : decide (1048576 < m) = false := decide_eq_false (by omega)
  have hm0 : 0 ≤ m := by omega
  have HM : Hid (m = ((s.size + tot 16 ts : Nat) : Int)) := hm
  clear hm
  by_cases hpx : 1048576 - m < (x.size : Int)
  · go_wp2
    go_ret
    exact ⟨rfl, Below.refl _ _⟩
  have hpd : decide (1048576 - m < (x.size : Int)) = false := decide_eq_false hpx
  have HT : Hid (s.size + tot 0 ts + x.size ≤ 1048576 ∧ ts.length ≤ 1048576) := by
    have h1 := HM.out; have h2 := tot_le ts; unfold Hid; omega
  go_wp2_with fail
  refine (clone_any ao ts cap w HS.out HT.out.2 HNIL.out).mono ?_
  rintro e w2 ⟨ao2, cap2, rfl, hst, hb2⟩
  have HST : Hid (Strs w2 ao2 ts) := hst
  clear hst
  go_wp2_with fail
  refine (build_any s ao2 ts cap2 w2 HST.out HT.out.2 (by have := HT.out; omega)).mono ?_
  rintro e w3 ⟨s', l, rfl, hbn, hch, hb3⟩
  have HLN : Hid (ln s' (tails l) = s.size + tot 0 ts) := by
    have h1 := ln_buildN s ts
    rw [← hbn] at h1
    exact h1
  have HSP : Hid (spellN s' (tails l) = modelL s ts) := by
    have h1 := spell_buildN s ts
    rw [← hbn] at h1
    exact h1
  have HBOX : Hid (Box (w3.alloc (.cells #[.string s', .pointer (hp l)] 28)) w3.heap.size s' l) := Box.born hch
  have HST3 : Hid (Strs (w3.alloc (.cells #[.string s', .pointer (hp l)] 28)) ao2 ts) := HST.out.below (hb3.trans ((below_box w3 s' (hp l)).mono hb3.size)) (Nat.le_refl _)
  have HB3 : Hid (Below w.heap.size w (w3.alloc (.cells #[.string s', .pointer (hp l)] 28))) := (hb2.trans (hb3.mono hb2.size)).trans ((below_box w3 s' (hp l)).mono (Nat.le_trans hb2.size hb3.size))
  clear hbn hch hb2 hb3 HST
  go_wp2_with fail
  refine (add_any s' x l _ HBOX.out.2.2 (by rw [HLN.out]; have := HT.out; omega)).mono ?_
  rintro e w4 ⟨sa, la, rfl, hea, hcha, _hma, hb4⟩
  have HLNA : Hid (ln sa (tails la) = s.size + tot 0 ts + x.size) := by
    have h1 := ln_addN s' (tails l) x
    rw [← hea] at h1
    unfold Hid; rw [← HLN.out]; exact h1
  have HSPA : Hid (spellN sa (tails la) = modelL s ts ++ x.data.toList) := by
    have h1 := spellN_addN s' (tails l) x
    rw [← hea] at h1
    unfold Hid; rw [← HSP.out]; exact h1
  have HBOX4 : Hid (Box (w4.alloc (.cells #[.string sa, .pointer (hp la)] 28)) w4.heap.size sa la) := Box.born hcha
  have HST4 : Hid (Strs (w4.alloc (.cells #[.string sa, .pointer (hp la)] 28)) ao2 ts) := (HST3.out.below hb4 (Nat.le_refl _)).below (below_box _ _ _) (Nat.le_refl _)
  have HB4 : Hid (Below w.heap.size w (w4.alloc (.cells #[.string sa, .pointer (hp la)] 28))) := (HB3.out.trans (hb4.mono HB3.out.size)).trans ((below_box w4 _ _).mono (Nat.le_trans HB3.out.size hb4.size))
  clear hea hcha hb4 HBOX HST3 HB3 _hma
  go_wp2_with fail
  refine (spell_any s x ao2 ts cap2 _ HST4.out HT.out.2 (by have := HT.out; omega)).mono ?_
  rintro e w5 ⟨⟨r, rfl, hr⟩, hb5⟩
  have HR : Hid (spellN sa (tails la) = r.data.toList) := by unfold Hid; rw [hr]; exact HSPA.out
  have HX5 : Hid (Box w5 w4.heap.size sa la ∧ Below w.heap.size w w5) := ⟨HBOX4.out.below hb5, HB4.out.trans (hb5.mono HB4.out.size)⟩
  have hrz : r.size = s.size + tot 0 ts + x.size := by rw [← size_list, hr, List.length_append, modelL_length, size_list]
  have HRZ : Hid (ln sa (tails la) = r.size) := by unfold Hid; rw [hrz]; exact HLNA.out
  have hr20 : r.size ≤ 2097152 := by have := HT.out; omega
  clear hr hb5 hrz HBOX4 HST4 HB4 hmd hm0 hm2 hpx hpd
  have c0 := HX5.out.1.1
  have c1 := HX5.out.1.2.1
  go_wp2_with fail
  refine (len_b sa la r.size _ HX5.out.1.2.2 HRZ.out hr20).mono ?_
  rintro e w6 ⟨rfl, hb6⟩
  have HX6 : Hid (Box w6 w4.heap.size sa la ∧ Below w.heap.size w w6) := ⟨HX5.out.1.below hb6, HX5.out.2.trans (hb6.mono HX5.out.2.size)⟩
  clear hb6 HX5 c0 c1
  have c0 := HX6.out.1.1
  have c1 := HX6.out.1.2.1
  go_wp2_with fail
  refine (hasPrefix_as sa r la _ HX6.out.1.2.2 (by rw [HRZ.out]; exact hr20) true (by rw [HR.out]; exact pre_refl _)).mono ?_
  rintro e w7 ⟨rfl, hb7⟩
  have HX7 : Hid (Box w7 w4.heap.size sa la ∧ Below w.heap.size w w7) := ⟨HX6.out.1.below hb7, HX6.out.2.trans (hb7.mono HX6.out.2.size)⟩
  clear hb7 HX6 c0 c1
  by_cases hj0 : j < 0
  · go_wp2
    go_ret
    exact ⟨rfl, HX7.out.2⟩
  have hj0d : decide (j < 0) = false := decide_eq_false hj0
  by_cases hj1 : (r.size : Int) ≤ j
  · go_wp2
    go_ret
    exact ⟨rfl, HX7.out.2⟩
  have hj1d : decide ((r.size : Int) ≤ j) = false := decide_eq_false hj1
  obtain ⟨i, rfl⟩ := Int.eq_ofNat_of_zero_le (show 0 ≤ j by omega)
  have hir : i < r.size := by omega
  have hir2 : (i : Int) ≤ (r.size : Int) := by omega
  have hi0 : (0 : Int) ≤ (i : Int) := by omega
  clear hj0 hj1
  have c0 := HX7.out.1.1
  have c1 := HX7.out.1.2.1
  go_wp2_with fail
  go_region_with (go_at_call 12; refine (hasPrefix_as sa (r.extract 0 i) la _ (HX7.out.1.2.2.below (Below.refl _ _).drew) (by rw [HRZ.out]; exact hr20) true (by rw [HR.out, Lib.extract_data, List.drop_zero]; exact pre_true (List.take_prefix _ _))).mono ?_; rintro e w8 ⟨rfl, hb8⟩)
  have HX8 : Hid (Box w8 w4.heap.size sa la ∧ Below w.heap.size w w8) := ⟨(HX7.out.1.below (Below.refl _ _).drew).below hb8, (HX7.out.2.trans ((Below.refl _ _).drew)).trans (hb8.mono HX7.out.2.size)⟩
  have hex : (r.extract 0 (i + 1)).size = i + 1 := by rw [← size_list, Lib.extract_data, List.drop_zero, List.length_take, size_list]; omega
  obtain ⟨cp, W1, hrun, hcell, hfz, hbel⟩ := bytes_of w8 (r.extract 0 (i + 1)) (i + 1) hex
  have hci := hcell i (by omega)
  have hfi := hfz i (by omega)
  have HCELL : Hid (∀ j, j < i + 1 → W1.cell? ⟨w8.heap.size, j, none⟩ = some (.int .u8 (((r.extract 0 (i + 1)).data.toList.getD j 0).toNat : Int))) := hcell
  have HX9 : Hid (Box W1 w4.heap.size sa la ∧ Below w.heap.size w W1) := ⟨HX8.out.1.below hbel, HX8.out.2.trans (hbel.mono HX8.out.2.size)⟩
  have HBEL : Hid (Below w8.heap.size w8 W1) := hbel
  have HG : Hid (w4.heap.size < w8.heap.size) := cell_lt HX8.out.1.1
  clear hb8 HX7 c0 c1 hcell hfz hbel hex
  generalize hbb : ((r.extract 0 (i + 1)).data.toList.getD i 0) = bb at hci
  have HBB : Hid ((r.extract 0 (i + 1)).data.toList.getD i 0 = bb) := hbb
  clear hbb
  obtain ⟨bc, hxor, hne⟩ : ∃ bc : UInt8, bits .xor .u8 (bb.toNat : Int) 1 = (bc.toNat : Int) ∧ bc ≠ bb := ⟨_, (xor_byte bb).1, (xor_byte bb).2⟩
  have HNE : Hid (bc ≠ bb) := hne
  have hconv := bad_string W1 w8.heap.size i cp r bc hir HCELL.out
  have hblk : ∀ k, k ≠ w8.heap.size → (W1.setCell ⟨w8.heap.size, i, none⟩ (.int .u8 (bc.toNat : Int))).heap[k]? = W1.heap[k]? := fun k hk => Below.heap_setCell W1 _ _ k hk
  have c0 : (W1.setCell ⟨w8.heap.size, i, none⟩ (.int .u8 (bc.toNat : Int))).cell? ⟨w4.heap.size, 0, none⟩ = some (.string sa) := (World.cell?_of_block (w := W1) (a := ⟨w4.heap.size, 0, none⟩) (hblk _ (by have := HG.out; show w4.heap.size ≠ _; omega))).trans HX9.out.1.1
  have c1 : (W1.setCell ⟨w8.heap.size, i, none⟩ (.int .u8 (bc.toNat : Int))).cell? ⟨w4.heap.size, 1, none⟩ = some (.pointer (hp la)) := (World.cell?_of_block (w := W1) (a := ⟨w4.heap.size, 1, none⟩) (hblk _ (by have := HG.out; show w4.heap.size ≠ _; omega))).trans HX9.out.1.2.1
  have HBX : Hid (Below w8.heap.size w8 (W1.setCell ⟨w8.heap.size, i, none⟩ (.int .u8 (bc.toNat : Int)))) := HBEL.out.setCell (Nat.le_refl _) _
  have HPRE : Hid (pre (ByteArray.mk (r.data.toList.take i ++ [bc]).toArray).data.toList r.data.toList = false) := bad_pre r i bc hir (by rw [HBB.out]; exact HNE.out)
  clear hne hblk
  go_wp2_with fail
  refine (hasPrefix_as sa _ la _ (HX8.out.1.2.2.below HBX.out) (by rw [HRZ.out]; exact hr20) false (by rw [HR.out]; exact HPRE.out)).mono ?_
  rintro e w9 ⟨rfl, hb9⟩
  go_wp2
  go_ret
  refine ⟨rfl, ?_⟩
  have h1 := HX8.out.2.trans (HBX.out.mono HX8.out.2.size)
  exact h1.trans (hb9.mono h1.size)
end Go.Proofs.Qxb6603935a
