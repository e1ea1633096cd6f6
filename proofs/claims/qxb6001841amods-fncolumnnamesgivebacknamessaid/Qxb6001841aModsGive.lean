/-
  The walk of FnColumnNamesGiveBackNames.
-/
import Derived.Test.Qxb6001841aModsEqual
namespace Go.Proofs.Qxb6001841aMods
open Go.RowKit

set_option maxHeartbeats 1000000 in
theorem walk3 (a0 : Option Addr) (n0 c0 : Nat) (s0 : List ByteArray) (t : ByteArray) (w : World) (h0 : Strs w a0 n0 s0) :
    Calls Trym.prog 3 #[.string t, .slice a0 n0 c0] w fun e w' => e = .returned (.bool true) ∧ Below w.heap.size w w' := by
  go_enter Trym.func3, Trym.ntmps3
  go_wp2_with fail
  refine (zz7 a0 n0 c0 s0 t _ h0).mono ?_
  rintro e w1 ⟨rfl | ⟨rfl, u0, ut⟩, hb1⟩
  · go_wp2
    go_ret
    exact ⟨rfl, hb1⟩
  have h0 := h0.below hb1
  by_cases g : n0 ≤ 65536 ∧ t.size ≤ 65536
  rotate_left
  · go_wp2_with fail
    all_goals (go_ret; exact ⟨rfl, hb1⟩)
  obtain ⟨g0, g1⟩ := g
  go_wp2_with fail
  refine (bytes_any a0 n0 c0 s0 _ h0 (by omega) u0.2).mono ?_
  rintro e w2 ⟨⟨m0, p0, q0, rfl⟩, hb2⟩
  have h0 := h0.below hb2
  have hbw := hb1.trans (hb2.mono hb1.size)
  clear hb1 hb2
  by_cases hm : (t.size : Int) + m0 ≤ 1048576
  rotate_left
  · go_wp2_with fail
    all_goals (go_ret; exact ⟨rfl, hbw⟩)
  go_wp2_with fail
  refine (clone_any a0 n0 c0 s0 _ h0 (by omega)).mono ?_
  rintro e w3 ⟨a1, c1, rfl, o1, hb3⟩
  have s1 := strs_of_owns o1
  have hbw := hbw.trans (hb3.mono hbw.size)
  clear hb3 o1
  go_wp2_with fail
  refine (table_any _ a1 n0 c1 s0 _ s1 (by omega)).mono ?_
  rintro e w4 ⟨rfl, ht, hz, hb4⟩
  have s1 := s1.below hb4
  have hbw := hbw.trans (hb4.mono hbw.size)
  have z4 := hb4.size
  have hlen : Hid (s0.length = n0) := s1.1.symm
  clear hb4
  go_wp2_with fail
  have tL : Tab (w4.alloc (.cells #[.string t, .slice (some ⟨w3.heap.size + 1, 0, none⟩) n0 n0, .slice none 0 0] 28)) (w3.heap.size + 1) n0 s0 n0 := ht.of_block (Below.heap_alloc _ _ _ hz)
  refine (names11 t (w3.heap.size + 1) n0 s0 _ hlen tL (by simp; omega) (by omega)).mono ?_
  rintro e w5 ⟨rfl, o5, hb5⟩
  clear tL
  simp only [World.size_alloc] at o5
  have o5 : w5.ownsRow (w4.heap.size + 2) 9 1 (.slice (some ⟨w4.heap.size + 3, 0, none⟩) n0 n0) n0 (s0.map Value.string) := o5
  have hb5 : Below w4.heap.size w4 w5 := ((Below.refl _ _).alloc (Nat.le_refl _) _).trans (hb5.mono (by simp))
  have s1 := s1.below hb5
  have s2 := strs_of_owns o5
  have hbw := hbw.trans (hb5.mono hbw.size)
  have r := sameB_refl s0
  clear hb5 o5
  go_wp2_with fail
  refine (equal12 (some ⟨w4.heap.size + 3, 0, none⟩) a1 n0 n0 n0 c1 s0 s0 _ s2 s1 (by omega)).mono ?_
  rintro e w6 ⟨rfl, hb6⟩
  have s1 := s1.below hb6
  have s2 := s2.below hb6
  have hbw := hbw.trans (hb6.mono hbw.size)
  clear hb6
  go_wp2_with fail
  refine (same13 (some ⟨w4.heap.size + 3, 0, none⟩) a1 n0 n0 n0 c1 s0 s0 _ s2 s1 (by omega)).mono ?_
  rintro e w7 ⟨rfl, hb7⟩
  have s1 := s1.below hb7
  have s2 := s2.below hb7
  have hbw := hbw.trans (hb7.mono hbw.size)
  clear hb7
  go_wp2_with fail
  refine (same13 a1 (some ⟨w4.heap.size + 3, 0, none⟩) n0 n0 c1 n0 s0 s0 _ s1 s2 (by omega)).mono ?_
  rintro e w8 ⟨rfl, hb8⟩
  have hbw := hbw.trans (hb8.mono hbw.size)
  clear hb8
  go_wp2
  go_ret
  exact ⟨rfl, hbw⟩

end Go.Proofs.Qxb6001841aMods
