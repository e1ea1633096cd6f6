/-
  columnNames: the names of a table's columns, in a fresh list.
-/
import Derived.Test.Qxb6001841aModsTable
namespace Go.Proofs.Qxb6001841aMods
open Go.RowKit

set_option maxHeartbeats 1000000 in
theorem names17 (t : ByteArray) (g n : Nat) (ss : List ByteArray) (w : World) (hlen : Hid (ss.length = n)) (ht : Tab w g n ss n) (hg : g < w.heap.size) (hl : n ≤ 1048576) :
    Calls Trym.prog 17 #[.agg #[.string t, .slice (some ⟨g, 0, none⟩) n n, .slice none 0 0]] w fun e w' => e = .returned (.slice (some ⟨w.heap.size + 1, 0, none⟩) n n) ∧
      w'.ownsRow w.heap.size 9 1 (.slice (some ⟨w.heap.size + 1, 0, none⟩) n n) n (ss.map Value.string) ∧ Below w.heap.size w w' := by
  obtain ⟨i0, hi, hz0, hz1, hz2⟩ := info_parts Trym.info9
  go_enter Trym.func17, Trym.ntmps17
  go_wp2_with (at_make; refine wpList_make_full _ rfl _ _ 22 rfl w.heap.size 9 i0 (.string ByteArray.empty) 1 Trym.underlying22 hi hz0 hz1 _ _ _ _ n rfl rfl rfl rfl ?b1 ?b2 ?b3 ?_)
  case b1 => rw [hz2]; omega
  case b2 => unfold maxLen; omega
  case b3 => simp
  intro w1 hown hgrow
  have hz := (hown.lt _ rfl).2
  have hb1 : Below (w.heap.size + 1) (w.alloc (.cells #[.string t, .slice (some ⟨g, 0, none⟩) n n, .slice none 0 0] 28)) w1 := (Below.refl _ _).grown hgrow (by simp) (by simp)
  rw [toList_madeCells_one] at hown
  have hown0 : w1.ownsRow w.heap.size 9 1 (.slice (some ⟨w.heap.size + 1, 0, none⟩) n n) n (laidV (ss.map Value.string) (.string ByteArray.empty) 0) := by
    rw [laidV_zero]; simpa [hlen.out] using hown
  have r1 : w1.cell? ⟨w.heap.size, 1, none⟩ = some (.slice (some ⟨g, 0, none⟩) n n) := by rw [hb1.cell (p := ⟨w.heap.size, 1, none⟩) (by simp)]; simp
  clear hi hz0 hz1 hz2 hown hgrow
  go_wp2
  go_loopw [13] (fun i wr => ∃ k : Nat, k ≤ n ∧ i = .int .i64 k ∧ wr.ownsRow w.heap.size 9 1 (.slice (some ⟨w.heap.size + 1, 0, none⟩) n n) n (laidV (ss.map Value.string) (.string ByteArray.empty) k) ∧ w.heap.size + 1 < wr.heap.size ∧ Below w.heap.size w wr) (fun i _ => n - (intOf i).toNat)
  case atStart => exact ⟨0, Nat.zero_le _, rfl, hown0, hz, ((Below.refl _ _).alloc (Nat.le_refl _) _).trans (hb1.mono (by omega))⟩
  case round =>
    obtain ⟨k, hk, rfl, hown, hz, hb⟩ := hrel
    clear hown0 hb1 r1
    by_cases hlt : k < n
    · have ht' := ht.of_block (hb.block g hg)
      obtain ⟨q0, q1, q2, q3, q4, q5⟩ := ht'.1 k hlt
      rw [if_pos hlt] at q0
      clear ht' ht
      have hz1 : wr.cell? ⟨w.heap.size + 1, k, none⟩ = some (.string ByteArray.empty) := by
        rw [hown.cellAt k (by omega), laidV_at _ _ _ (by simp [hlen.out]; omega)]
      have hfr := hown.frozenAt k
      have hl2 : k < ss.length := by have := hlen.out; omega
      have hst := (hown.stored k (.string (ss.getD k ByteArray.empty))).1
      rw [laidV_step _ _ _ _ (getD_str ss k hl2)] at hst
      have hb' := hb.setCell (p := ⟨w.heap.size + 1, k, none⟩) (by simp) (.string (ss.getD k ByteArray.empty))
      clear hown hl2
      generalize hsk : ss.getD k ByteArray.empty = s at *
      clear hsk
      go_wp2
      go_roundw
      case rel => exact ⟨k + 1, by omega, by go_num, hst.alloc _, by simp; omega, hb'.alloc hb'.size _⟩
      case measure => simp [intOf]; omega
    · obtain rfl : k = n := by omega
      have hl' := hlen.out
      have e : laidV (ss.map Value.string) (.string ByteArray.empty) k = ss.map Value.string := by
        rw [show k = (ss.map Value.string).length from by simp [hl'], laidV_all]
      rw [e] at hown
      clear e hl'
      go_wp2
      go_ret
      exact ⟨rfl, hown, hb⟩

/-- ZZColumnNames. -/
theorem names11 (t : ByteArray) (g n : Nat) (ss : List ByteArray) (w : World) (hlen : Hid (ss.length = n)) (ht : Tab w g n ss n) (hg : g < w.heap.size) (hl : n ≤ 1048576) :
    Calls Trym.prog 11 #[.agg #[.string t, .slice (some ⟨g, 0, none⟩) n n, .slice none 0 0]] w fun e w' => e = .returned (.slice (some ⟨w.heap.size + 2, 0, none⟩) n n) ∧
      w'.ownsRow (w.heap.size + 1) 9 1 (.slice (some ⟨w.heap.size + 2, 0, none⟩) n n) n (ss.map Value.string) ∧ Below w.heap.size w w' := by
  have ht' : Tab (w.alloc (.cells #[.string t, .slice (some ⟨g, 0, none⟩) n n, .slice none 0 0] 28)) g n ss n := ht.of_block (Below.heap_alloc _ _ _ hg)
  go_enter Trym.func11, Trym.ntmps11
  go_wp2_with fail
  refine (names17 t g n ss _ hlen ht' (by simp; omega) hl).mono ?_
  rintro e w1 ⟨rfl, ho, hb⟩
  have hb2 : Below w.heap.size w w1 := ((Below.refl _ _).alloc (Nat.le_refl _) _).trans (hb.mono (by simp))
  simp only [World.size_alloc] at ho
  go_wp2
  go_ret
  exact ⟨rfl, ho, hb2⟩

end Go.Proofs.Qxb6001841aMods
