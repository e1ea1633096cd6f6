/-
  The walk of FnSameNamesEquivalence.
-/
import Derived.Test.Qxb6001841aModsZz
namespace Go.Proofs.Qxb6001841aMods
open Go.RowKit

theorem sameB_symm (xs ys : List ByteArray) : sameB xs ys = sameB ys xs := by
  cases h : sameB xs ys with
  | true => rw [sameB_eq h, sameB_refl]
  | false =>
    cases h' : sameB ys xs with
    | false => rfl
    | true => rw [sameB_eq h', sameB_refl] at h; exact absurd h (by simp)

theorem sameB_trans {xs ys zs : List ByteArray} (h : sameB xs ys = true) (h' : sameB ys zs = true) : sameB xs zs = true := by
  rw [sameB_eq h]; exact h'

set_option maxHeartbeats 1000000 in
theorem walk5 (a0 a1 a2 : Option Addr) (n0 n1 n2 c0 c1 c2 : Nat) (s0 s1 s2 : List ByteArray) (w : World) (h0 : Strs w a0 n0 s0) (h1 : Strs w a1 n1 s1) (h2 : Strs w a2 n2 s2) :
    Calls Trym.prog 5 #[.slice a0 n0 c0, .slice a1 n1 c1, .slice a2 n2 c2] w fun e w' => e = .returned (.bool true) ∧ Below w.heap.size w w' := by
  go_enter Trym.func5, Trym.ntmps5
  go_wp2_with fail
  refine (zz15 a0 a1 a2 n0 n1 n2 c0 c1 c2 s0 s1 s2 _ h0 h1 h2).mono ?_
  rintro e w1 ⟨rfl | ⟨rfl, u0, u1, u2⟩, hb1⟩
  · go_wp2
    go_ret
    exact ⟨rfl, hb1⟩
  have h0 := h0.below hb1
  have h1 := h1.below hb1
  have h2 := h2.below hb1
  by_cases g : n0 ≤ 65536 ∧ n1 ≤ 65536 ∧ n2 ≤ 65536
  rotate_left
  · go_wp2_with fail
    all_goals (go_ret; exact ⟨rfl, hb1⟩)
  obtain ⟨g0, g1, g2⟩ := g
  go_wp2_with fail
  refine (bytes_any a0 n0 c0 s0 _ h0 (by omega) u0.2).mono ?_
  rintro e w2 ⟨⟨m0, p0, q0, rfl⟩, hb2⟩
  have h0 := h0.below hb2
  have h1 := h1.below hb2
  have h2 := h2.below hb2
  have hb2 := hb1.trans (hb2.mono hb1.size)
  clear hb1
  go_wp2_with fail
  refine (bytes_any a1 n1 c1 s1 _ h1 (by omega) u1.2).mono ?_
  rintro e w3 ⟨⟨m1, p1, q1, rfl⟩, hb3⟩
  have h0 := h0.below hb3
  have h1 := h1.below hb3
  have h2 := h2.below hb3
  have hb3 := hb2.trans (hb3.mono hb2.size)
  clear hb2
  go_wp2_with fail
  refine (bytes_any a2 n2 c2 s2 _ h2 (by omega) u2.2).mono ?_
  rintro e w4 ⟨⟨m2, p2, q2, rfl⟩, hb4⟩
  have h0 := h0.below hb4
  have h1 := h1.below hb4
  have h2 := h2.below hb4
  have hb4 := hb3.trans (hb4.mono hb3.size)
  clear hb3
  go_wp2_with fail
  · go_ret
    exact ⟨rfl, hb4⟩
  refine (clone_any a0 n0 c0 s0 _ h0 (by omega)).mono ?_
  rintro e w5 ⟨d0, e0, rfl, o0, hb5⟩
  have h0 := strs_of_owns o0
  have h1 := h1.below hb5
  have h2 := h2.below hb5
  have hb5 := hb4.trans (hb5.mono hb4.size)
  clear hb4 o0
  go_wp2_with fail
  refine (clone_any a1 n1 c1 s1 _ h1 (by omega)).mono ?_
  rintro e w6 ⟨d1, e1, rfl, o1, hb6⟩
  have h0 := h0.below hb6
  have h1 := strs_of_owns o1
  have h2 := h2.below hb6
  have hb6 := hb5.trans (hb6.mono hb5.size)
  clear hb5 o1
  go_wp2_with fail
  refine (clone_any a2 n2 c2 s2 _ h2 (by omega)).mono ?_
  rintro e w7 ⟨d2, e2, rfl, o2, hb7⟩
  have h0 := h0.below hb7
  have h1 := h1.below hb7
  have h2 := strs_of_owns o2
  have hb7 := hb6.trans (hb7.mono hb6.size)
  clear hb6 o2
  have r00 := sameB_refl s0
  go_wp2_with fail
  refine (same13 d0 d0 n0 n0 e0 e0 s0 s0 _ h0 h0 (by omega)).mono ?_
  rintro e w8 ⟨rfl, hb8⟩
  have h0 := h0.below hb8
  have h1 := h1.below hb8
  have h2 := h2.below hb8
  have hb8 := hb7.trans (hb8.mono hb7.size)
  clear hb7
  go_wp2_with fail
  refine (same13 d0 d1 n0 n1 e0 e1 s0 s1 _ h0 h1 (by omega)).mono ?_
  rintro e w9 ⟨rfl, hb9⟩
  have h0 := h0.below hb9
  have h1 := h1.below hb9
  have h2 := h2.below hb9
  have hb9 := hb8.trans (hb9.mono hb8.size)
  clear hb8
  go_wp2_with fail
  refine (same13 d1 d0 n1 n0 e1 e0 s1 s0 _ h1 h0 (by omega)).mono ?_
  rw [← sameB_symm s0 s1]
  rintro e w10 ⟨rfl, hb10⟩
  have h0 := h0.below hb10
  have h1 := h1.below hb10
  have h2 := h2.below hb10
  have hb10 := hb9.trans (hb10.mono hb9.size)
  clear hb9
  have hne : (sameB s0 s1 != sameB s0 s1) = false := by simp
  go_wp2_with fail
  refine (same13 d0 d1 n0 n1 e0 e1 s0 s1 _ h0 h1 (by omega)).mono ?_
  rintro e w11 ⟨rfl, hb11⟩
  have h0 := h0.below hb11
  have h1 := h1.below hb11
  have h2 := h2.below hb11
  have hb11 := hb10.trans (hb11.mono hb10.size)
  clear hb10
  cases h01 : sameB s0 s1 with
  | false =>
    go_wp2_with fail
    go_ret
    exact ⟨rfl, hb11⟩
  | true =>
    have H01 : Hid (sameB s0 s1 = true) := h01
    clear h01
    go_wp2_with fail
    refine (same13 d1 d2 n1 n2 e1 e2 s1 s2 _ h1 h2 (by omega)).mono ?_
    rintro e w12 ⟨rfl, hb12⟩
    have h0 := h0.below hb12
    have h2 := h2.below hb12
    have hb12 := hb11.trans (hb12.mono hb11.size)
    clear hb11
    cases h12 : sameB s1 s2 with
    | false =>
      go_wp2_with fail
      go_ret
      exact ⟨rfl, hb12⟩
    | true =>
      have h02 := sameB_trans H01.out h12
      have H12 : Hid (sameB s1 s2 = true) := h12
      clear h12
      go_wp2_with fail
      refine (same13 d0 d2 n0 n2 e0 e2 s0 s2 _ h0 h2 (by omega)).mono ?_
      rintro e w13 ⟨rfl, hb13⟩
      have hb13 := hb12.trans (hb13.mono hb12.size)
      clear hb12
      go_wp2
      go_ret
      exact ⟨rfl, hb13⟩

end Go.Proofs.Qxb6001841aMods
