/-
  The walk of FnSameNamesSeesOneChange.
-/
import Derived.Test.Qxb6001841aModsZz2
namespace Go.Proofs.Qxb6001841aMods
open Go.RowKit

/-- b1Clone of a list that is not empty: the copy lies at the head of the next block. -/
theorem clone_pos (a : Option Addr) (n c : Nat) (ss : List ByteArray) (w : World) (h : Strs w a n ss) (hl : n ≤ 1048576) (h0 : 0 < n) :
    Calls Trym.prog 9 #[.slice a n c] w fun e w' => e = .returned (.slice (some ⟨w.heap.size, 0, none⟩) n n) ∧
      w'.ownsRow w.heap.size 9 1 (.slice (some ⟨w.heap.size, 0, none⟩) n n) n (ss.map Value.string) ∧ Below w.heap.size w w' := by
  obtain ⟨rfl, h⟩ := h
  rcases h with rfl | ⟨b, off, rfl, hc⟩
  · simp at h0
  · exact clone_cons b off c ss w hl hc

theorem sameB_false {xs ys : List ByteArray} (h : xs ≠ ys) : sameB xs ys = false := by
  cases hh : sameB xs ys with
  | false => rfl
  | true => exact absurd (sameB_eq hh) h

theorem set_ne {ss : List ByteArray} {j : Nat} {s : ByteArray} (hj : j < ss.length) (h : ss.getD j ByteArray.empty ≠ s) : ss ≠ ss.set j s := by
  intro e
  have := congrArg (fun l => l.getD j ByteArray.empty) e
  simp [hj] at this
  simp [hj] at h
  exact h this

theorem snoc_ne (ss : List ByteArray) (s : ByteArray) : ss ≠ ss ++ [s] := by
  intro e
  have := congrArg List.length e
  simp at this

theorem below_of_grown {g : Nat} {w w' : World} (h : w.grownBy w' (some g)) (hg : g ≤ w.heap.size) : Below g w w' :=
  ⟨h.os, h.tape, h.output, h.size, fun k hk => h.block k (by omega) (by simp; omega)⟩

/-- A row that lies below block g stays. -/
theorem owns_under {w w' : World} {base : Nat} {e : TypeId} {size : Nat} {b n c : Nat} {xs : List Value} {g : Nat} (h : w.ownsRow base e size (.slice (some ⟨b, 0, none⟩) n c) n xs) (hb : Below g w w') (hg : b < g) : w'.ownsRow base e size (.slice (some ⟨b, 0, none⟩) n c) n xs := by
  obtain ⟨h1, h2⟩ := h
  refine ⟨h1, ?_⟩
  rcases h2 with ⟨h2, _⟩ | ⟨g', cap, cur, hv, hg', hh, r⟩
  · simp at h2
  · have hv' := hv
    simp only [Value.slice.injEq, Option.some.injEq, Addr.mk.injEq, and_true, true_and] at hv'
    exact .inr ⟨g', cap, cur, hv, hg', by rw [hb.block g' (by omega)]; exact hh, r⟩

/-- The longer list, as its loop lays it. -/
theorem longer_at (ss : List ByteArray) (t : ByteArray) (k : Nat) (h : k < ss.length) : ((ss ++ [t]).map Value.string)[k]? = some (.string (ss.getD k ByteArray.empty)) := by
  simp [h, List.getElem?_append]
theorem longer_last (ss : List ByteArray) (t : ByteArray) : ((ss ++ [t]).map Value.string)[ss.length]? = some (.string t) := by
  simp

set_option maxHeartbeats 1000000 in
theorem walk6 (a0 : Option Addr) (n0 c0 : Nat) (s0 : List ByteArray) (x : Int) (t : ByteArray) (w : World) (h0 : Strs w a0 n0 s0) :
    Calls Trym.prog 6 #[.slice a0 n0 c0, .int .i64 x, .string t] w fun e w' => e = .returned (.bool true) ∧ Below w.heap.size w w' := by
  go_enter Trym.func6, Trym.ntmps6
  go_wp2_with fail
  refine (zz16 a0 n0 c0 s0 x t _ h0).mono ?_
  rintro e w1 ⟨rfl | ⟨rfl, u0, ut⟩, hb1⟩
  · go_wp2
    go_ret
    exact ⟨rfl, hb1⟩
  have h0 := h0.below hb1
  by_cases g : n0 ≤ 65536 ∧ t.size ≤ 65536
  rotate_left
  · go_wp2_with fail
    all_goals (go_ret; exact ⟨rfl, hb1⟩)
  obtain ⟨g0, g1⟩ := g
  go_wp2_with fail
  refine (bytes_any a0 n0 c0 s0 _ h0 (by omega) u0.2).mono ?_
  rintro e w2 ⟨⟨m0, p0, q0, rfl⟩, hb2⟩
  have h0 := h0.below hb2
  have hb2 := hb1.trans (hb2.mono hb1.size)
  clear hb1
  by_cases hm : (t.size : Int) + m0 ≤ 1048576
  rotate_left
  · go_wp2_with fail
    all_goals (go_ret; exact ⟨rfl, hb2⟩)
  by_cases hx : 0 ≤ x ∧ x < n0
  rotate_left
  · go_wp2_with fail
    all_goals (go_ret; exact ⟨rfl, hb2⟩)
  obtain ⟨j, rfl⟩ : ∃ j : Nat, x = j := ⟨x.toNat, by omega⟩
  obtain ⟨hx0, hx1⟩ := hx
  have hj : j < n0 := by omega
  obtain ⟨b, off, s, rfl, hs, hc⟩ := h0.at hj
  by_cases hst : s = t
  · subst hst
    go_wp2_with fail
    go_ret
    exact ⟨rfl, hb2⟩
  have hst' : (s.toList == t.toList) = false := by
    simp; exact fun h => hst (toList_inj h)
  have hne : s0 ≠ s0.set j t := set_ne (by have := h0.1; omega) (by rw [← hs.out]; exact hst)
  clear hst
  go_wp2_with fail
  refine (clone_pos (some ⟨b, off, none⟩) n0 c0 s0 _ h0 (by omega) (by omega)).mono ?_
  rintro e w3 ⟨rfl, oA, hb3⟩
  have hA := (oA.lt _ rfl).2
  have hbw := hb2.trans (hb3.mono hb2.size)
  have z2 := hb2.size
  clear hb2 hb3 hc
  go_wp2_with fail
  refine (clone_pos _ n0 n0 s0 _ (strs_of_owns oA) (by omega) (by omega)).mono ?_
  rintro e w4 ⟨rfl, oB, hb4⟩
  have oA := owns_below oA hb4
  have hB := (oB.lt _ rfl).2
  have hbw := hbw.trans (hb4.mono hbw.size)
  clear hb4
  go_wp2_with fail
  refine (clone_pos _ n0 n0 s0 _ (strs_of_owns oA) (by omega) (by omega)).mono ?_
  rintro e w5 ⟨rfl, oC, hb5⟩
  have oA := owns_below oA hb5
  have oB := owns_below oB hb5
  have hC := (oC.lt _ rfl).2
  have hbw := hbw.trans (hb5.mono hbw.size)
  clear hb5
  have hcC : w5.cell? ⟨w4.heap.size, j, none⟩ = some (.string s) := by
    rw [oC.cellAt j (by omega), getD_str _ _ (by have := h0.1; omega), hs.out]
  have hfC := oC.frozenAt j
  obtain ⟨oC, hgC⟩ := oC.stored j (.string t)
  have hbC := below_of_grown hgC (Nat.le_of_lt hC)
  have oA := owns_under oA hbC (by omega)
  have oB := owns_under oB hbC (by omega)
  have hbw := hbw.trans (hbC.mono (by omega))
  clear hgC hbC
  obtain ⟨i0, hi, hz0, hz1, hz2⟩ := info_parts Trym.info9
  go_wp2_with (at_make; refine wpList_make_full _ rfl _ _ 22 rfl w5.heap.size 9 i0 (.string ByteArray.empty) 1 Trym.underlying22 hi hz0 hz1 _ _ _ _ (n0 + 1) rfl rfl (by omega) (by omega) ?b1 ?b2 ?b3 ?_)
  case b1 => rw [hz2]; omega
  case b2 => unfold maxLen; omega
  case b3 => simp
  intro w7 hown hgrow
  have hb7 : Below w5.heap.size (w5.setCell ⟨w4.heap.size, j, none⟩ (.string t)) w7 := (Below.refl _ _).grown hgrow (by simp) (by simp)
  have oA := owns_under oA hb7 (by omega)
  have oB := owns_under oB hb7 (by omega)
  have oC := owns_under oC hb7 (by omega)
  have hbw := hbw.trans (hb7.mono (by omega))
  rw [toList_madeCells_one] at hown
  have hlen : Hid (s0.length = n0) := h0.1.symm
  have hown0 : w7.ownsRow w5.heap.size 9 1 (.slice (some ⟨w5.heap.size, 0, none⟩) (n0 + 1) (n0 + 1)) (n0 + 1) (laidV ((s0 ++ [t]).map Value.string) (.string ByteArray.empty) 0) := by
    rw [laidV_zero]; simpa [hlen.out] using hown
  clear hown hgrow hi hz0 hz1 hz2 hb7 hcC hfC
  go_wp2
  go_loopw [10] (fun i wr => ∃ k : Nat, k ≤ n0 ∧ i = .int .i64 k ∧ wr.ownsRow w5.heap.size 9 1 (.slice (some ⟨w5.heap.size, 0, none⟩) (n0 + 1) (n0 + 1)) (n0 + 1) (laidV ((s0 ++ [t]).map Value.string) (.string ByteArray.empty) k) ∧ Below w5.heap.size w7 wr) (fun i _ => n0 - (intOf i).toNat)
  case atStart => exact ⟨0, Nat.zero_le _, rfl, hown0, Below.refl _ _⟩
  case round =>
    obtain ⟨k, hk, rfl, hown, hb⟩ := hrel
    clear hown0
    have oA := owns_under oA hb (by omega)
    by_cases hlt : k < n0
    · have hl' := hlen.out
      have hck : wr.cell? ⟨w2.heap.size, k, none⟩ = some (.string (s0.getD k ByteArray.empty)) := by
        rw [oA.cellAt k (by omega), getD_str _ _ (by omega)]
      have hz : wr.cell? ⟨w5.heap.size, k, none⟩ = some (.string ByteArray.empty) := by
        rw [hown.cellAt k (by omega), laidV_at _ _ _ (by simp; omega)]
      have hfr := hown.frozenAt k
      have hst := hown.stored k (.string (s0.getD k ByteArray.empty))
      rw [laidV_step _ _ _ _ (longer_at s0 t k (by omega))] at hst
      have hb' := hb.setCell (p := ⟨w5.heap.size, k, none⟩) (Nat.le_refl _) (.string (s0.getD k ByteArray.empty))
      clear hown hl'
      generalize hsk : s0.getD k ByteArray.empty = s at *
      clear hsk
      go_wp2
      go_roundw
      case rel => exact ⟨k + 1, by omega, by go_num, hst.1, hb'⟩
      case measure => simp [intOf]; omega
    · obtain rfl : k = n0 := by omega
      have oB := owns_under oB hb (by omega)
      have oC := owns_under oC hb (by omega)
      have hbw := hbw.trans (hb.mono (by omega))
      have hl' := hlen.out
      have hz : wr.cell? ⟨w5.heap.size, k, none⟩ = some (.string ByteArray.empty) := by
        rw [hown.cellAt k (by omega), laidV_at _ _ _ (by simp; omega)]
      have hfr := hown.frozenAt k
      have hl5 := (hown.lt _ rfl).2
      obtain ⟨oD, hgD⟩ := hown.stored k (.string t)
      have eL : (laidV ((s0 ++ [t]).map Value.string) (.string ByteArray.empty) k).set k (.string t) = (s0 ++ [t]).map Value.string := by
        rw [laidV_step _ _ _ _ (by have := longer_last s0 t; rwa [hl'] at this), show k + 1 = ((s0 ++ [t]).map Value.string).length from by simp [hl'], laidV_all]
      rw [eL] at oD
      clear eL
      have hbD := below_of_grown hgD (Nat.le_of_lt hl5)
      have oA := owns_under oA hbD (by omega)
      have oB := owns_under oB hbD (by omega)
      have oC := owns_under oC hbD (by omega)
      have hbw := hbw.trans (hbD.mono (by omega))
      have r1 := sameB_refl s0
      have r2 := sameB_false hne
      have r3 := sameB_false hne.symm
      have r4 := sameB_false (snoc_ne s0 t)
      have r5 := sameB_false (snoc_ne s0 t).symm
      have oC : ((wr.setCell ⟨w5.heap.size, k, none⟩ (.string t))).ownsRow w4.heap.size 9 1 (.slice (some ⟨w4.heap.size, 0, none⟩) k k) k ((s0.set j t).map Value.string) := by
        rw [List.map_set]; exact oC
      have sA := strs_of_owns oA
      have sB := strs_of_owns oB
      have sC := strs_of_owns oC
      have sD := strs_of_owns oD
      clear oA oB oC oD hgD hbD hl' hown hl5
      go_wp2_with fail
      refine (same13 _ _ k k k k s0 s0 _ sA sB (by omega)).mono ?_
      rintro e x1 ⟨rfl, hx1⟩
      have sA := sA.below hx1
      have sC := sC.below hx1
      have sD := sD.below hx1
      have hbw := hbw.trans (hx1.mono hbw.size)
      clear hx1 sB
      go_wp2_with fail
      refine (same13 _ _ k k k k s0 (s0.set j t) _ sA sC (by omega)).mono ?_
      rintro e x2 ⟨rfl, hx2⟩
      have sA := sA.below hx2
      have sC := sC.below hx2
      have sD := sD.below hx2
      have hbw := hbw.trans (hx2.mono hbw.size)
      clear hx2
      go_wp2_with fail
      refine (same13 _ _ k k k k (s0.set j t) s0 _ sC sA (by omega)).mono ?_
      rintro e x3 ⟨rfl, hx3⟩
      have sA := sA.below hx3
      have sD := sD.below hx3
      have hbw := hbw.trans (hx3.mono hbw.size)
      clear hx3 sC
      go_wp2_with fail
      refine (same13 _ _ k (k + 1) k (k + 1) s0 (s0 ++ [t]) _ sA sD (by omega)).mono ?_
      rintro e x4 ⟨rfl, hx4⟩
      have sA := sA.below hx4
      have sD := sD.below hx4
      have hbw := hbw.trans (hx4.mono hbw.size)
      clear hx4
      go_wp2_with fail
      refine (same13 _ _ (k + 1) k (k + 1) k (s0 ++ [t]) s0 _ sD sA (by omega)).mono ?_
      rintro e x5 ⟨rfl, hx5⟩
      have hbw := hbw.trans (hx5.mono hbw.size)
      clear hx5
      go_wp2_with fail
      go_ret
      exact ⟨rfl, hbw⟩

end Go.Proofs.Qxb6001841aMods
