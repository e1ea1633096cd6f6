/-
  Shared walks of seat b6001845aM: slices of integers, read and cloned.
-/
import Derived.Test.Qxb6001845aModsRows
import Derived.WalkKit
import Derived.WalkSpells
import Derived.WalkLawsBesides
import Derived.Deep.QuietTactic
import Derived.BigQuiet
namespace Go.Proofs.Qxb6001845aMods
open Go.RowKit

/-- A slice value of n elements at 'a' reads as the numbers zs. -/
def Ints (w : World) (a : Option Addr) (n : Nat) (zs : List Int) : Prop :=
  n = zs.length ∧ (zs = [] ∨ ∃ b off, a = some ⟨b, off, none⟩ ∧ ∀ i, i < zs.length → w.cell? ⟨b, off + i, none⟩ = some (.int .i64 (zs.getD i 0)))

theorem cell_lt {w : World} {p : Addr} {v : Value} (h : w.cell? p = some v) : p.block < w.heap.size := by
  apply Classical.byContradiction
  intro hn
  have : w.heap[p.block]? = none := by simp; omega
  simp [World.cell?, this] at h

theorem Ints.below {w w' : World} {a : Option Addr} {n : Nat} {zs : List Int} (h : Ints w a n zs) (hb : Below w.heap.size w w') : Ints w' a n zs := by
  refine ⟨h.1, ?_⟩
  rcases h.2 with h | ⟨b, off, ha, hc⟩
  · exact .inl h
  · refine .inr ⟨b, off, ha, fun i hi => ?_⟩
    have := hc i hi
    rw [hb.cell (p := ⟨b, off + i, none⟩) (cell_lt this)]
    exact this

/-! ### zzCloneInts -/
theorem Trym.cells3 : Trym.prog.cellsOf 3 = 1 := by kernel_rfl
theorem Trym.info3 : (Trym.prog.info? 3).map (fun i => (i.zero, i.size, i.bytes)) = some (some (.int .i64 0), 1, 8) := by kernel_rfl

/-- What the call owns stays owned where nothing that is there turns. -/
theorem owns_below {w w' : World} {base : Nat} {e : TypeId} {size : Nat} {v : Value} {n : Nat} {xs : List Value} (h : w.ownsRow base e size v n xs) (hb : Below w.heap.size w w') : w'.ownsRow base e size v n xs := by
  obtain ⟨h1, h2⟩ := h
  refine ⟨h1, ?_⟩
  rcases h2 with h2 | ⟨g, cap, cur, hv, hg, hh, r⟩
  · exact .inl h2
  · exact .inr ⟨g, cap, cur, hv, hg, by rw [hb.block g (by have := (Array.getElem?_eq_some_iff.1 hh).1; exact this)]; exact hh, r⟩

/-- An owned row of numbers reads as those numbers. -/
theorem ints_of_owns {w : World} {base : Nat} {a : Option Addr} {n c : Nat} {zs : List Int} (h : w.ownsRow base 3 1 (.slice a n c) n (zs.map (Value.int .i64))) : Ints w a n zs := by
  have hn : n = zs.length := by have := h.1; simp at this; omega
  refine ⟨hn, ?_⟩
  rcases h.2 with ⟨_, h2⟩ | ⟨g, cap, cur, hv, hg, hh, r⟩
  · exact .inl (List.length_eq_zero_iff.1 (by omega))
  · right
    simp at hv
    obtain ⟨rfl, _, rfl⟩ := hv
    refine ⟨g, 0, rfl, fun i hi => ?_⟩
    rw [Nat.zero_add, World.ownsRow.cellAt h i (by omega), List.getElem?_map, List.getElem?_eq_getElem hi]
    simp [hi]

theorem clone_nil (c : Nat) (w : World) :
    Calls Trym.prog 9 #[.slice none 0 c] w fun e w' => e = .returned (.slice none 0 0) ∧ Below w.heap.size w w' := by
  have hnil := fun (w : World) => Lib.run_eql_slice_nil (P := Trym.prog) w 27 3 none 0 c 0 0 Trym.underlying27
  go_enter Trym.func9, Trym.ntmps9
  go_wp2
  go_ret
  exact ⟨rfl, Below.refl _ _⟩

/-- The first k values laid, the rest as 'make' left them. -/
def laidV (xs : List Value) (z : Value) (k : Nat) : List Value := xs.take k ++ List.replicate (xs.length - k) z

theorem laidV_zero (xs : List Value) (z : Value) : laidV xs z 0 = List.replicate xs.length z := by simp [laidV]
theorem laidV_all (xs : List Value) (z : Value) : laidV xs z xs.length = xs := by simp [laidV]
theorem laidV_step (xs : List Value) (z : Value) (k : Nat) (u : Value) (h : xs[k]? = some u) : (laidV xs z k).set k u = laidV xs z (k + 1) := by
  obtain ⟨hk, rfl⟩ := List.getElem?_eq_some_iff.1 h
  unfold laidV
  have e : xs.length - k = (xs.length - (k + 1)) + 1 := by omega
  rw [List.set_append_right _ _ (by simp; omega), e, List.replicate_succ, List.take_succ_eq_append_getElem hk]
  simp only [List.length_take, Nat.min_eq_left (Nat.le_of_lt hk), Nat.sub_self, List.set_cons_zero, List.append_assoc, List.singleton_append]
theorem laidV_at (xs : List Value) (z : Value) (k : Nat) (hk : k < xs.length) : (laidV xs z k)[k]? = some z := by
  unfold laidV
  rw [List.getElem?_append_right (by simp; omega)]
  simp [Nat.min_eq_left (Nat.le_of_lt hk), List.getElem?_replicate]
  omega

theorem getD_int (zs : List Int) (k : Nat) (h : k < zs.length) : (zs.map (Value.int .i64))[k]? = some (.int .i64 (zs.getD k 0)) := by
  simp [h]

set_option maxHeartbeats 400000 in
theorem clone_cons (b off c : Nat) (zs : List Int) (w : World) (hl : zs.length ≤ 1048576)
    (hc : ∀ i, i < zs.length → w.cell? ⟨b, off + i, none⟩ = some (.int .i64 (zs.getD i 0))) :
    Calls Trym.prog 9 #[.slice (some ⟨b, off, none⟩) zs.length c] w fun e w' => e = .returned (.slice (some ⟨w.heap.size, 0, none⟩) zs.length zs.length) ∧
      w'.ownsRow w.heap.size 3 1 (.slice (some ⟨w.heap.size, 0, none⟩) zs.length zs.length) zs.length (zs.map (Value.int .i64)) ∧ Below w.heap.size w w' := by
  obtain ⟨i0, hi, hz0, hz1, hz2⟩ := info_parts Trym.info3
  have hnil := fun (w : World) => Lib.run_eql_slice_nil (P := Trym.prog) w 27 3 (some ⟨b, off, none⟩) zs.length c 0 0 Trym.underlying27
  go_enter Trym.func9, Trym.ntmps9
  go_wp2_with (at_make; refine wpList_make_full _ rfl _ _ 27 rfl w.heap.size 3 i0 (.int .i64 0) 1 Trym.underlying27 hi hz0 hz1 _ _ _ _ zs.length rfl rfl rfl rfl ?b1 ?b2 ?b3 ?_)
  case b1 => rw [hz2]; omega
  case b2 => unfold maxLen; omega
  case b3 => exact Nat.le_refl _
  intro w1 hown hgrow
  have hb1 : Below w.heap.size w w1 := (Below.refl _ _).grown hgrow (Nat.le_refl _) (by simp)
  rw [toList_madeCells_one] at hown
  have hown0 : w1.ownsRow w.heap.size 3 1 (.slice (some ⟨w.heap.size, 0, none⟩) zs.length zs.length) zs.length (laidV (zs.map (Value.int .i64)) (.int .i64 0) 0) := by
    rw [laidV_zero]; simpa using hown
  clear hown hgrow hnil hi hz0 hz1 hz2
  go_wp2
  go_loopw [4] (fun i wr => ∃ k : Nat, k ≤ zs.length ∧ i = .int .i64 k ∧ wr.ownsRow w.heap.size 3 1 (.slice (some ⟨w.heap.size, 0, none⟩) zs.length zs.length) zs.length (laidV (zs.map (Value.int .i64)) (.int .i64 0) k) ∧ Below w.heap.size w wr) (fun i _ => zs.length - (intOf i).toNat)
  case atStart => exact ⟨0, Nat.zero_le _, rfl, hown0, hb1⟩
  case round =>
    obtain ⟨k, hk, rfl, hown, hb⟩ := hrel
    clear hown0 hb1
    by_cases hlt : k < zs.length
    · have hck := hc k hlt
      have hck' : wr.cell? ⟨b, off + k, none⟩ = some (.int .i64 (zs.getD k 0)) := by
        rw [hb.cell (p := ⟨b, off + k, none⟩) (cell_lt hck)]; exact hck
      have hz : wr.cell? ⟨w.heap.size, k, none⟩ = some (.int .i64 0) := by
        rw [World.ownsRow.cellAt hown k (by omega), laidV_at _ _ _ (by simpa using hlt)]
      have hfr := World.ownsRow.frozenAt hown k
      have hst := World.ownsRow.stored hown k (.int .i64 (zs.getD k 0))
      rw [laidV_step _ _ _ _ (getD_int zs k hlt)] at hst
      have hb' := hb.setCell (p := ⟨w.heap.size, k, none⟩) (Nat.le_refl _) (.int .i64 (zs.getD k 0))
      clear hck hc hown
      generalize hsk : zs.getD k 0 = s at *
      clear hsk
      go_wp2
      go_roundw
      case rel => exact ⟨k + 1, by omega, by go_num, hst.1, hb'⟩
      case measure => simp [intOf]; omega
    · have hkk : k = zs.length := by omega
      rw [hkk] at hown
      rw [show laidV (zs.map (Value.int .i64)) (.int .i64 0) zs.length = zs.map (Value.int .i64) from by rw [← List.length_map (f := (Value.int .i64)), laidV_all]] at hown
      clear hkk
      go_wp2
      go_ret
      exact ⟨rfl, hown, hb⟩

/-- An empty slice that is not nil. -/
theorem clone_empty (x : Addr) (c : Nat) (w : World) :
    Calls Trym.prog 9 #[.slice (some x) 0 c] w fun e w' => e = .returned (.slice (some ⟨w.heap.size, 0, none⟩) 0 0) ∧
      w'.ownsRow w.heap.size 3 1 (.slice (some ⟨w.heap.size, 0, none⟩) 0 0) 0 [] ∧ Below w.heap.size w w' := by
  obtain ⟨i0, hi, hz0, hz1, hz2⟩ := info_parts Trym.info3
  have hnil := fun (w : World) => Lib.run_eql_slice_nil (P := Trym.prog) w 27 3 (some x) 0 c 0 0 Trym.underlying27
  go_enter Trym.func9, Trym.ntmps9
  go_wp2_with (at_make; refine wpList_make_full _ rfl _ _ 27 rfl w.heap.size 3 i0 (.int .i64 0) 1 Trym.underlying27 hi hz0 hz1 _ _ _ _ 0 rfl rfl rfl rfl ?b1 ?b2 ?b3 ?_)
  case b1 => rw [hz2]; omega
  case b2 => unfold maxLen; omega
  case b3 => exact Nat.le_refl _
  intro w1 hown hgrow
  have hb1 : Below w.heap.size w w1 := (Below.refl _ _).grown hgrow (Nat.le_refl _) (by simp)
  rw [toList_madeCells_one] at hown
  clear hgrow hnil hi hz0 hz1 hz2
  go_wp2
  go_loop [4] (fun i => i = .int .i64 0) (fun _ => 0)
  case atStart => rfl
  case round =>
    obtain rfl := hrel
    go_wp2
    go_ret
    exact ⟨rfl, by simpa using hown, hb1⟩

/-- zzCloneInts: a fresh copy. -/
theorem clone_any (a : Option Addr) (n c : Nat) (zs : List Int) (w : World) (h : Ints w a n zs) (hl : n ≤ 1048576) :
    Calls Trym.prog 9 #[.slice a n c] w fun e w' => ∃ a' c', e = .returned (.slice a' n c') ∧
      w'.ownsRow w.heap.size 3 1 (.slice a' n c') n (zs.map (Value.int .i64)) ∧ Below w.heap.size w w' := by
  obtain ⟨rfl, h⟩ := h
  rcases h with rfl | ⟨b, off, rfl, hc⟩
  · cases a with
    | none => exact (clone_nil c w).mono fun e w' ⟨he, hb⟩ => ⟨none, 0, he, World.ownsRow_nil _ _ _ _, hb⟩
    | some x => exact (clone_empty x c w).mono fun e w' ⟨he, ho, hb⟩ => ⟨_, _, he, ho, hb⟩
  · exact (clone_cons b off c zs w hl hc).mono fun e w' ⟨he, ho, hb⟩ => ⟨_, _, he, ho, hb⟩


end Go.Proofs.Qxb6001845aMods
