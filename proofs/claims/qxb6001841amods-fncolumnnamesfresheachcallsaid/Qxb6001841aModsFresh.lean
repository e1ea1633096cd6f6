/-
  The walk of FnColumnNamesFreshEachCall.
-/
import Derived.Test.Qxb6001841aModsEqual
namespace Go.Proofs.Qxb6001841aMods
open Go.RowKit

set_option maxHeartbeats 1000000 in
theorem walk4 (a0 : Option Addr) (n0 c0 : Nat) (s0 : List ByteArray) (t : ByteArray) (w : World) (h0 : Strs w a0 n0 s0) :
    Calls Trym.prog 4 #[.slice a0 n0 c0, .string t] w fun e w' => e = .returned (.bool true) ∧ Below w.heap.size w w' := by
  go_enter Trym.func4, Trym.ntmps4
  go_wp2_with fail
  refine (zz14 a0 n0 c0 s0 t _ h0).mono ?_
  rintro e w1 ⟨rfl | ⟨rfl, u0, ut⟩, hb1⟩
  · go_wp2
    go_ret
    exact ⟨rfl, hb1⟩
  have h0 := h0.below hb1
  by_cases g : n0 ≤ 65536 ∧ t.size ≤ 65536
  rotate_left
  · go_wp2_with fail
    all_goals (go_ret; exact ⟨rfl, hb1⟩)
  obtain ⟨g0, g1⟩ := g
  go_wp2_with fail
  refine (bytes_any a0 n0 c0 s0 _ h0 (by omega) u0.2).mono ?_
  rintro e w2 ⟨⟨m0, p0, q0, rfl⟩, hb2⟩
  have h0 := h0.below hb2
  have hbw := hb1.trans (hb2.mono hb1.size)
  clear hb1 hb2
  by_cases hm : (t.size : Int) + m0 ≤ 1048576
  rotate_left
  · go_wp2_with fail
    all_goals (go_ret; exact ⟨rfl, hbw⟩)
  go_wp2_with fail
  refine (clone_any a0 n0 c0 s0 _ h0 (by omega)).mono ?_
  rintro e w3 ⟨a1, c1, rfl, o1, hb3⟩
  have s1 := strs_of_owns o1
  have hbw := hbw.trans (hb3.mono hbw.size)
  clear hb3 o1
  go_wp2_with fail
  refine (table_any _ a1 n0 c1 s0 _ s1 (by omega)).mono ?_
  rintro e w4 ⟨rfl, ht, hz, hb4⟩
  have s1 := s1.below hb4
  have hbw := hbw.trans (hb4.mono hbw.size)
  have z4 := hb4.size
  have hlen : Hid (s0.length = n0) := s1.1.symm
  clear hb4
  go_wp2_with fail
  have tL : Tab (w4.alloc (.cells #[.string ⟨#[116]⟩, .slice (some ⟨w3.heap.size + 1, 0, none⟩) n0 n0, .slice none 0 0] 28)) (w3.heap.size + 1) n0 s0 n0 := ht.of_block (Below.heap_alloc _ _ _ hz)
  refine (names11 ⟨#[116]⟩ (w3.heap.size + 1) n0 s0 _ hlen tL (by simp; omega) (by omega)).mono ?_
  rintro e w5 ⟨rfl, o5, hb5⟩
  clear tL
  simp only [World.size_alloc] at o5 hb5
  have HB := hb5
  have hz5 := (o5.lt _ rfl).2
  go_wp2
  go_loopw [7] (fun i wr => ∃ (k : Nat) (xs : List Value), k ≤ n0 ∧ i = .int .i64 k ∧ wr.ownsRow (w4.heap.size + 2) 9 1 (.slice (some ⟨w4.heap.size + 3, 0, none⟩) n0 n0) n0 xs ∧ Below (w4.heap.size + 3) w5 wr) (fun i _ => n0 - (intOf i).toNat)
  case atStart => exact ⟨0, _, Nat.zero_le _, rfl, o5, Below.refl _ _⟩
  case round =>
    obtain ⟨k, xs, hk, rfl, o, hb⟩ := hrel
    clear o5
    by_cases hlt : k < n0
    · have hxl : k < xs.length := by have := o.1; omega
      have hz : wr.cell? ⟨w4.heap.size + 3, k, none⟩ = some xs[k] := by
        rw [o.cellAt k (by omega), List.getElem?_eq_getElem hxl]
      have hfr := o.frozenAt k
      have hst := (o.stored k (.string t)).1
      have hb' := hb.setCell (p := ⟨w4.heap.size + 3, k, none⟩) (Nat.le_refl _) (.string t)
      generalize xs[k] = u at hz
      go_wp2
      go_roundw
      case rel => exact ⟨k + 1, _, by omega, by go_num, hst, hb'⟩
      case measure => simp [intOf]; omega
    · have HB : Below (w4.heap.size + 1) (w4.alloc (.cells #[.string ⟨#[116]⟩, .slice (some ⟨w3.heap.size + 1, 0, none⟩) n0 n0, .slice none 0 0] 28)) wr := HB.trans (hb.mono (by omega))
      have HB4 : Below w4.heap.size w4 wr := ((Below.refl _ _).alloc (Nat.le_refl _) _).trans (HB.mono (by omega))
      have r0 : wr.cell? ⟨w4.heap.size, 0, none⟩ = some (.string ⟨#[116]⟩) := by rw [HB.cell (p := ⟨w4.heap.size, 0, none⟩) (by simp)]; simp
      have r1 : wr.cell? ⟨w4.heap.size, 1, none⟩ = some (.slice (some ⟨w3.heap.size + 1, 0, none⟩) n0 n0) := by rw [HB.cell (p := ⟨w4.heap.size, 1, none⟩) (by simp)]; simp
      have r2 : wr.cell? ⟨w4.heap.size, 2, none⟩ = some (.slice none 0 0) := by rw [HB.cell (p := ⟨w4.heap.size, 2, none⟩) (by simp)]; simp
      have tR : Tab wr (w3.heap.size + 1) n0 s0 n0 := ht.of_block (HB4.block _ hz)
      have s1 := s1.below HB4
      have hbw := hbw.trans (HB4.mono hbw.size)
      have z4 := HB4.size
      clear HB HB4 o hb hb5
      go_wp2_with fail
      refine (names11 ⟨#[116]⟩ (w3.heap.size + 1) n0 s0 _ hlen tR (by omega) (by omega)).mono ?_
      rintro e w6 ⟨rfl, o6, hb6⟩
      have s1 := s1.below hb6
      have hbw := hbw.trans (hb6.mono hbw.size)
      have s2 := strs_of_owns o6
      have r := sameB_refl s0
      clear hb6 o6 r0 r1 r2
      go_wp2_with fail
      refine (equal12 _ a1 n0 n0 _ c1 s0 s0 _ s2 s1 (by omega)).mono ?_
      rintro e w7 ⟨rfl, hb7⟩
      have hbw := hbw.trans (hb7.mono hbw.size)
      clear hb7
      go_wp2
      go_ret
      exact ⟨rfl, hbw⟩

end Go.Proofs.Qxb6001841aMods
