/-
  Shared walks of seat b6001841aM: lists of strings, read and cloned.
-/
import Derived.Test.Qxb6001841aModsRows
import Derived.WalkKit
import Derived.WalkSpells
import Derived.WalkLawsBesides
import Derived.Deep.QuietTactic
import Derived.BigQuiet
namespace Go.Proofs.Qxb6001841aMods
open Go.RowKit

/-- A slice value of n elements at 'a' reads as the strings ss. -/
def Strs (w : World) (a : Option Addr) (n : Nat) (ss : List ByteArray) : Prop :=
  n = ss.length ∧ (ss = [] ∨ ∃ b off, a = some ⟨b, off, none⟩ ∧ ∀ i, i < ss.length → w.cell? ⟨b, off + i, none⟩ = some (.string (ss.getD i ByteArray.empty)))

theorem cell_lt {w : World} {p : Addr} {v : Value} (h : w.cell? p = some v) : p.block < w.heap.size := by
  apply Classical.byContradiction
  intro hn
  have : w.heap[p.block]? = none := by simp; omega
  simp [World.cell?, this] at h

theorem Strs.below {w w' : World} {a : Option Addr} {n : Nat} {ss : List ByteArray} (h : Strs w a n ss) (hb : Below w.heap.size w w') : Strs w' a n ss := by
  refine ⟨h.1, ?_⟩
  rcases h.2 with h | ⟨b, off, ha, hc⟩
  · exact .inl h
  · refine .inr ⟨b, off, ha, fun i hi => ?_⟩
    have := hc i hi
    rw [hb.cell (p := ⟨b, off + i, none⟩) (cell_lt this)]
    exact this

/-- The bytes that b1Bytes counts are some number between 0 and this. -/
theorem bytes_nil (a : Option Addr) (c : Nat) (w : World) :
    Calls Trym.prog 8 #[.slice a 0 c] w fun e w' => e = .returned (.int .i64 0) ∧ Below w.heap.size w w' := by
  go_enter Trym.func8, Trym.ntmps8
  go_wp2
  go_loop [3, 4] (fun n i => i = .int .i64 0 ∧ n = .int .i64 0) (fun _ _ => 0)
  case atStart => exact ⟨rfl, rfl⟩
  case round =>
    obtain ⟨rfl, rfl⟩ := hrel
    go_wp2
    go_ret
    exact ⟨rfl, Below.refl _ _⟩

set_option maxHeartbeats 400000 in
theorem bytes_cons (b off c : Nat) (ss : List ByteArray) (w : World) (hl : ss.length ≤ 1048576) (hs : ∀ s ∈ ss, s.size ≤ 1048576)
    (hc : ∀ i, i < ss.length → w.cell? ⟨b, off + i, none⟩ = some (.string (ss.getD i ByteArray.empty))) :
    Calls Trym.prog 8 #[.slice (some ⟨b, off, none⟩) ss.length c] w fun e w' => (∃ m : Int, 0 ≤ m ∧ m ≤ 2097168 ∧ e = .returned (.int .i64 m)) ∧ Below w.heap.size w w' := by
  go_enter Trym.func8, Trym.ntmps8
  go_wp2
  go_loop [3, 4] (fun n i => ∃ (k : Nat) (m : Int), k ≤ ss.length ∧ i = .int .i64 k ∧ n = .int .i64 m ∧ 0 ≤ m ∧ m ≤ 1048576) (fun _ i => ss.length - (intOf i).toNat)
  case atStart => exact ⟨0, 0, Nat.zero_le _, rfl, rfl, by omega, by omega⟩
  case round =>
    obtain ⟨k, m, hk, rfl, rfl, hm0, hm1⟩ := hrel
    by_cases hlt : k < ss.length
    · have hck := hc k hlt
      have hsz : (ss.getD k ByteArray.empty).size ≤ 1048576 := by
        rw [List.getD_eq_getElem?_getD, List.getElem?_eq_getElem hlt]; exact hs _ (List.getElem_mem hlt)
      generalize hsk : ss.getD k ByteArray.empty = s at hck hsz
      clear hsk hc hs
      go_wp2
      · go_ret
        exact ⟨⟨_, by omega, by omega, rfl⟩, Below.refl _ _⟩
      · go_round
        case rel => exact ⟨k + 1, m + (16 + s.size), by omega, by go_num, rfl, by omega, by omega⟩
        case measure => simp [intOf]; omega
    · go_wp2
      go_ret
      exact ⟨⟨_, hm0, by omega, rfl⟩, Below.refl _ _⟩

/-- b1Bytes: some number within bounds; nothing is written. -/
theorem bytes_any (a : Option Addr) (n c : Nat) (ss : List ByteArray) (w : World) (h : Strs w a n ss) (hl : n ≤ 1048576) (hs : ∀ s ∈ ss, s.size ≤ 1048576) :
    Calls Trym.prog 8 #[.slice a n c] w fun e w' => (∃ m : Int, 0 ≤ m ∧ m ≤ 2097168 ∧ e = .returned (.int .i64 m)) ∧ Below w.heap.size w w' := by
  obtain ⟨rfl, h⟩ := h
  rcases h with rfl | ⟨b, off, rfl, hc⟩
  · exact (bytes_nil a c w).mono fun e w' ⟨he, hb⟩ => ⟨⟨0, by omega, by omega, he⟩, hb⟩
  · exact bytes_cons b off c ss w hl hs hc

/-! ### b1Clone -/
theorem Trym.cells9 : Trym.prog.cellsOf 9 = 1 := by kernel_rfl
theorem Trym.info9 : (Trym.prog.info? 9).map (fun i => (i.zero, i.size, i.bytes)) = some (some (.string ByteArray.empty), 1, 16) := by kernel_rfl

/-- What the call owns stays owned where nothing that is there turns. -/
theorem owns_below {w w' : World} {base : Nat} {e : TypeId} {size : Nat} {v : Value} {n : Nat} {xs : List Value} (h : w.ownsRow base e size v n xs) (hb : Below w.heap.size w w') : w'.ownsRow base e size v n xs := by
  obtain ⟨h1, h2⟩ := h
  refine ⟨h1, ?_⟩
  rcases h2 with h2 | ⟨g, cap, cur, hv, hg, hh, r⟩
  · exact .inl h2
  · exact .inr ⟨g, cap, cur, hv, hg, by rw [hb.block g (by have := (Array.getElem?_eq_some_iff.1 hh).1; exact this)]; exact hh, r⟩

/-- An owned row of strings reads as those strings. -/
theorem strs_of_owns {w : World} {base : Nat} {a : Option Addr} {n c : Nat} {ss : List ByteArray} (h : w.ownsRow base 9 1 (.slice a n c) n (ss.map Value.string)) : Strs w a n ss := by
  have hn : n = ss.length := by have := h.1; simp at this; omega
  refine ⟨hn, ?_⟩
  rcases h.2 with ⟨_, h2⟩ | ⟨g, cap, cur, hv, hg, hh, r⟩
  · exact .inl (List.length_eq_zero_iff.1 (by omega))
  · right
    simp at hv
    obtain ⟨rfl, _, rfl⟩ := hv
    refine ⟨g, 0, rfl, fun i hi => ?_⟩
    rw [Nat.zero_add, World.ownsRow.cellAt h i (by omega), List.getElem?_map, List.getElem?_eq_getElem hi]
    simp [hi]

theorem clone_nil (c : Nat) (w : World) :
    Calls Trym.prog 9 #[.slice none 0 c] w fun e w' => e = .returned (.slice none 0 0) ∧ Below w.heap.size w w' := by
  have hnil := fun (w : World) => Lib.run_eql_slice_nil (P := Trym.prog) w 22 9 none 0 c 0 0 Trym.underlying22
  go_enter Trym.func9, Trym.ntmps9
  go_wp2
  go_ret
  exact ⟨rfl, Below.refl _ _⟩

/-- The first k values laid, the rest as 'make' left them. -/
def laidV (xs : List Value) (z : Value) (k : Nat) : List Value := xs.take k ++ List.replicate (xs.length - k) z

theorem laidV_zero (xs : List Value) (z : Value) : laidV xs z 0 = List.replicate xs.length z := by simp [laidV]
theorem laidV_all (xs : List Value) (z : Value) : laidV xs z xs.length = xs := by simp [laidV]
theorem laidV_step (xs : List Value) (z : Value) (k : Nat) (u : Value) (h : xs[k]? = some u) : (laidV xs z k).set k u = laidV xs z (k + 1) := by
  obtain ⟨hk, rfl⟩ := List.getElem?_eq_some_iff.1 h
  unfold laidV
  have e : xs.length - k = (xs.length - (k + 1)) + 1 := by omega
  rw [List.set_append_right _ _ (by simp; omega), e, List.replicate_succ, List.take_succ_eq_append_getElem hk]
  simp only [List.length_take, Nat.min_eq_left (Nat.le_of_lt hk), Nat.sub_self, List.set_cons_zero, List.append_assoc, List.singleton_append]
theorem laidV_at (xs : List Value) (z : Value) (k : Nat) (hk : k < xs.length) : (laidV xs z k)[k]? = some z := by
  unfold laidV
  rw [List.getElem?_append_right (by simp; omega)]
  simp [Nat.min_eq_left (Nat.le_of_lt hk), List.getElem?_replicate]
  omega

theorem getD_str (ss : List ByteArray) (k : Nat) (h : k < ss.length) : (ss.map Value.string)[k]? = some (.string (ss.getD k ByteArray.empty)) := by
  simp [h]

set_option maxHeartbeats 400000 in
theorem clone_cons (b off c : Nat) (ss : List ByteArray) (w : World) (hl : ss.length ≤ 1048576)
    (hc : ∀ i, i < ss.length → w.cell? ⟨b, off + i, none⟩ = some (.string (ss.getD i ByteArray.empty))) :
    Calls Trym.prog 9 #[.slice (some ⟨b, off, none⟩) ss.length c] w fun e w' => e = .returned (.slice (some ⟨w.heap.size, 0, none⟩) ss.length ss.length) ∧
      w'.ownsRow w.heap.size 9 1 (.slice (some ⟨w.heap.size, 0, none⟩) ss.length ss.length) ss.length (ss.map Value.string) ∧ Below w.heap.size w w' := by
  obtain ⟨i0, hi, hz0, hz1, hz2⟩ := info_parts Trym.info9
  have hnil := fun (w : World) => Lib.run_eql_slice_nil (P := Trym.prog) w 22 9 (some ⟨b, off, none⟩) ss.length c 0 0 Trym.underlying22
  go_enter Trym.func9, Trym.ntmps9
  go_wp2_with (at_make; refine wpList_make_full _ rfl _ _ 22 rfl w.heap.size 9 i0 (.string ByteArray.empty) 1 Trym.underlying22 hi hz0 hz1 _ _ _ _ ss.length rfl rfl rfl rfl ?b1 ?b2 ?b3 ?_)
  case b1 => rw [hz2]; omega
  case b2 => unfold maxLen; omega
  case b3 => exact Nat.le_refl _
  intro w1 hown hgrow
  have hb1 : Below w.heap.size w w1 := (Below.refl _ _).grown hgrow (Nat.le_refl _) (by simp)
  rw [toList_madeCells_one] at hown
  have hown0 : w1.ownsRow w.heap.size 9 1 (.slice (some ⟨w.heap.size, 0, none⟩) ss.length ss.length) ss.length (laidV (ss.map Value.string) (.string ByteArray.empty) 0) := by
    rw [laidV_zero]; simpa using hown
  clear hown hgrow hnil hi hz0 hz1 hz2
  go_wp2
  go_loopw [4] (fun i wr => ∃ k : Nat, k ≤ ss.length ∧ i = .int .i64 k ∧ wr.ownsRow w.heap.size 9 1 (.slice (some ⟨w.heap.size, 0, none⟩) ss.length ss.length) ss.length (laidV (ss.map Value.string) (.string ByteArray.empty) k) ∧ Below w.heap.size w wr) (fun i _ => ss.length - (intOf i).toNat)
  case atStart => exact ⟨0, Nat.zero_le _, rfl, hown0, hb1⟩
  case round =>
    obtain ⟨k, hk, rfl, hown, hb⟩ := hrel
    clear hown0 hb1
    by_cases hlt : k < ss.length
    · have hck := hc k hlt
      have hck' : wr.cell? ⟨b, off + k, none⟩ = some (.string (ss.getD k ByteArray.empty)) := by
        rw [hb.cell (p := ⟨b, off + k, none⟩) (cell_lt hck)]; exact hck
      have hz : wr.cell? ⟨w.heap.size, k, none⟩ = some (.string ByteArray.empty) := by
        rw [World.ownsRow.cellAt hown k (by omega), laidV_at _ _ _ (by simpa using hlt)]
      have hfr := World.ownsRow.frozenAt hown k
      have hst := World.ownsRow.stored hown k (.string (ss.getD k ByteArray.empty))
      rw [laidV_step _ _ _ _ (getD_str ss k hlt)] at hst
      have hb' := hb.setCell (p := ⟨w.heap.size, k, none⟩) (Nat.le_refl _) (.string (ss.getD k ByteArray.empty))
      clear hck hc hown
      generalize hsk : ss.getD k ByteArray.empty = s at *
      clear hsk
      go_wp2
      go_roundw
      case rel => exact ⟨k + 1, by omega, by go_num, hst.1, hb'⟩
      case measure => simp [intOf]; omega
    · have hkk : k = ss.length := by omega
      rw [hkk] at hown
      rw [show laidV (ss.map Value.string) (.string ByteArray.empty) ss.length = ss.map Value.string from by rw [← List.length_map (f := Value.string), laidV_all]] at hown
      clear hkk
      go_wp2
      go_ret
      exact ⟨rfl, hown, hb⟩

/-- An empty slice that is not nil. -/
theorem clone_empty (x : Addr) (c : Nat) (w : World) :
    Calls Trym.prog 9 #[.slice (some x) 0 c] w fun e w' => e = .returned (.slice (some ⟨w.heap.size, 0, none⟩) 0 0) ∧
      w'.ownsRow w.heap.size 9 1 (.slice (some ⟨w.heap.size, 0, none⟩) 0 0) 0 [] ∧ Below w.heap.size w w' := by
  obtain ⟨i0, hi, hz0, hz1, hz2⟩ := info_parts Trym.info9
  have hnil := fun (w : World) => Lib.run_eql_slice_nil (P := Trym.prog) w 22 9 (some x) 0 c 0 0 Trym.underlying22
  go_enter Trym.func9, Trym.ntmps9
  go_wp2_with (at_make; refine wpList_make_full _ rfl _ _ 22 rfl w.heap.size 9 i0 (.string ByteArray.empty) 1 Trym.underlying22 hi hz0 hz1 _ _ _ _ 0 rfl rfl rfl rfl ?b1 ?b2 ?b3 ?_)
  case b1 => rw [hz2]; omega
  case b2 => unfold maxLen; omega
  case b3 => exact Nat.le_refl _
  intro w1 hown hgrow
  have hb1 : Below w.heap.size w w1 := (Below.refl _ _).grown hgrow (Nat.le_refl _) (by simp)
  rw [toList_madeCells_one] at hown
  clear hgrow hnil hi hz0 hz1 hz2
  go_wp2
  go_loop [4] (fun i => i = .int .i64 0) (fun _ => 0)
  case atStart => rfl
  case round =>
    obtain rfl := hrel
    go_wp2
    go_ret
    exact ⟨rfl, by simpa using hown, hb1⟩

/-- b1Clone: a fresh copy. -/
theorem clone_any (a : Option Addr) (n c : Nat) (ss : List ByteArray) (w : World) (h : Strs w a n ss) (hl : n ≤ 1048576) :
    Calls Trym.prog 9 #[.slice a n c] w fun e w' => ∃ a' c', e = .returned (.slice a' n c') ∧
      w'.ownsRow w.heap.size 9 1 (.slice a' n c') n (ss.map Value.string) ∧ Below w.heap.size w w' := by
  obtain ⟨rfl, h⟩ := h
  rcases h with rfl | ⟨b, off, rfl, hc⟩
  · cases a with
    | none => exact (clone_nil c w).mono fun e w' ⟨he, hb⟩ => ⟨none, 0, he, World.ownsRow_nil _ _ _ _, hb⟩
    | some x => exact (clone_empty x c w).mono fun e w' ⟨he, ho, hb⟩ => ⟨_, _, he, ho, hb⟩
  · exact (clone_cons b off c ss w hl hc).mono fun e w' ⟨he, ho, hb⟩ => ⟨_, _, he, ho, hb⟩

/-! ### sameNames -/
/-- Are two lists of strings the same, name by name? -/
def sameB : List ByteArray → List ByteArray → Bool
  | [], [] => true
  | x :: xs, y :: ys => (x.toList == y.toList) && sameB xs ys
  | _, _ => false

theorem toList_inj {x y : ByteArray} (h : x.toList = y.toList) : x = y := by
  rw [ByteArray.toList_eq, ByteArray.toList_eq] at h
  cases x; cases y; simpa using h

theorem sameB_refl (xs : List ByteArray) : sameB xs xs = true := by
  induction xs with
  | nil => rfl
  | cons x xs ih => simp [sameB, ih]
theorem sameB_eq {xs ys : List ByteArray} (h : sameB xs ys = true) : xs = ys := by
  induction xs generalizing ys with
  | nil => cases ys with
    | nil => rfl
    | cons => simp [sameB] at h
  | cons x xs ih => cases ys with
    | nil => simp [sameB] at h
    | cons y ys =>
      simp [sameB] at h
      rw [toList_inj h.1, ih h.2]
theorem sameB_len {xs ys : List ByteArray} (h : xs.length ≠ ys.length) : sameB xs ys = false := by
  cases hh : sameB xs ys with
  | false => rfl
  | true => exact absurd (congrArg List.length (sameB_eq hh)) h
theorem sameB_drop (xs ys : List ByteArray) (k : Nat) (hx : k < xs.length) (hy : k < ys.length) :
    sameB (xs.drop k) (ys.drop k) = (((xs.getD k ByteArray.empty).toList == (ys.getD k ByteArray.empty).toList) && sameB (xs.drop (k + 1)) (ys.drop (k + 1))) := by
  rw [List.drop_eq_getElem_cons hx, List.drop_eq_getElem_cons hy]
  simp [sameB, hx, hy]

set_option maxHeartbeats 400000 in
theorem same_cons (b off c b' off' c' : Nat) (n : Nat) (xs ys : List ByteArray) (hxl : Hid (xs.length = n)) (hyl : Hid (ys.length = n)) (w : World) (hl : n ≤ 1048577)
    (hx : ∀ i, i < n → w.cell? ⟨b, off + i, none⟩ = some (.string (xs.getD i ByteArray.empty)))
    (hy : ∀ i, i < n → w.cell? ⟨b', off' + i, none⟩ = some (.string (ys.getD i ByteArray.empty))) :
    Calls Trym.prog 18 #[.slice (some ⟨b, off, none⟩) n c, .slice (some ⟨b', off', none⟩) n c'] w fun e w' => e = .returned (.bool (sameB xs ys)) ∧ Below w.heap.size w w' := by
  go_enter Trym.func18, Trym.ntmps18
  go_wp2
  go_loopw [13] (fun i wr => ∃ k : Nat, k ≤ n ∧ i = .int .i64 k ∧ sameB xs ys = sameB (xs.drop k) (ys.drop k) ∧ Below w.heap.size w wr) (fun i _ => n - (intOf i).toNat)
  case atStart => exact ⟨0, Nat.zero_le _, rfl, rfl, Below.refl _ _⟩
  case round =>
    obtain ⟨k, hk, rfl, hsm, hb⟩ := hrel
    have HS : Hid (sameB xs ys = sameB (xs.drop k) (ys.drop k)) := hsm
    clear hsm
    by_cases hlt : k < n
    · have hxk := hx k hlt
      have hyk := hy k hlt
      have hxk' : wr.cell? ⟨b, off + k, none⟩ = some (.string (xs.getD k ByteArray.empty)) := by
        rw [hb.cell (p := ⟨b, off + k, none⟩) (cell_lt hxk)]; exact hxk
      have hyk' : wr.cell? ⟨b', off' + k, none⟩ = some (.string (ys.getD k ByteArray.empty)) := by
        rw [hb.cell (p := ⟨b', off' + k, none⟩) (cell_lt hyk)]; exact hyk
      have hn0 : (k : Int) < (n : Int) := by omega
      clear hxk hyk hx hy
      generalize hs : xs.getD k ByteArray.empty = s at *
      generalize ht : ys.getD k ByteArray.empty = t at *
      have HS2 : Hid (s = xs.getD k ByteArray.empty ∧ t = ys.getD k ByteArray.empty) := ⟨hs.symm, ht.symm⟩
      clear hs ht
      go_wp2
      go_quiet (fail)
      go_wp2
      · have hne : (!s.toList == t.toList) = true := by assumption
        go_ret
        refine ⟨?_, below_drewN hb _⟩
        have h1 : xs.length = n := hxl
        have h2 : ys.length = n := hyl
        rw [HS.out, sameB_drop _ _ _ (by omega) (by omega), ← HS2.out.1, ← HS2.out.2]
        simp at hne
        simp [hne]
      · have hne : (!s.toList == t.toList) = false := by assumption
        go_roundw
        case rel =>
          refine ⟨k + 1, by omega, by go_num, ?_, below_drewN hb _⟩
          have h1 : xs.length = n := hxl
          have h2 : ys.length = n := hyl
          rw [HS.out, sameB_drop _ _ _ (by omega) (by omega), ← HS2.out.1, ← HS2.out.2]
          simp at hne
          simp [hne]
        case measure => simp [intOf]; omega
    · go_wp2
      go_ret
      refine ⟨?_, hb⟩
      rw [HS.out]
      have h1 : xs.length = n := hxl
      have h2 : ys.length = n := hyl
      rw [List.drop_of_length_le (by omega), List.drop_of_length_le (by omega)]; rfl

theorem same_zero (a a' : Option Addr) (c c' : Nat) (w : World) :
    Calls Trym.prog 18 #[.slice a 0 c, .slice a' 0 c'] w fun e w' => e = .returned (.bool true) ∧ Below w.heap.size w w' := by
  go_enter Trym.func18, Trym.ntmps18
  go_wp2
  go_loop [13] (fun i => i = .int .i64 0) (fun _ => 0)
  case atStart => rfl
  case round =>
    obtain rfl := hrel
    go_wp2
    go_ret
    exact ⟨rfl, Below.refl _ _⟩

theorem same_short (a a' : Option Addr) (n n' c c' : Nat) (w : World) (h : ((n : Int) == (n' : Int)) = false) :
    Calls Trym.prog 18 #[.slice a n c, .slice a' n' c'] w fun e w' => e = .returned (.bool false) ∧ Below w.heap.size w w' := by
  go_enter Trym.func18, Trym.ntmps18
  go_wp2
  go_ret
  exact ⟨rfl, Below.refl _ _⟩

/-- sameNames: what it answers; nothing is written. -/
theorem same18 (a a' : Option Addr) (n n' c c' : Nat) (xs ys : List ByteArray) (w : World) (hx : Strs w a n xs) (hy : Strs w a' n' ys) (hl : n ≤ 1048577) :
    Calls Trym.prog 18 #[.slice a n c, .slice a' n' c'] w fun e w' => e = .returned (.bool (sameB xs ys)) ∧ Below w.heap.size w w' := by
  obtain ⟨hn, hx⟩ := hx
  obtain ⟨hn', hy⟩ := hy
  by_cases hnn : n = n'
  · subst hnn
    by_cases h0 : n = 0
    · subst h0
      have e1 : xs = [] := List.length_eq_zero_iff.1 hn.symm
      have e2 : ys = [] := List.length_eq_zero_iff.1 hn'.symm
      subst e1 e2
      exact same_zero a a' c c' w
    · rcases hx with rfl | ⟨b, off, rfl, hx⟩
      · simp at hn; omega
      rcases hy with rfl | ⟨b', off', rfl, hy⟩
      · simp at hn'; omega
      exact same_cons b off c b' off' c' n xs ys hn.symm hn'.symm w hl (fun i hi => hx i (by omega)) (fun i hi => hy i (by omega))
  · rw [sameB_len (by omega)]
    exact same_short a a' n n' c c' w (by simp; omega)

theorem same13 (a a' : Option Addr) (n n' c c' : Nat) (xs ys : List ByteArray) (w : World) (hx : Strs w a n xs) (hy : Strs w a' n' ys) (hl : n ≤ 1048577) :
    Calls Trym.prog 13 #[.slice a n c, .slice a' n' c'] w fun e w' => e = .returned (.bool (sameB xs ys)) ∧ Below w.heap.size w w' := by
  go_enter Trym.func13, Trym.ntmps13
  go_wp2_with fail
  refine (same18 a a' n n' c c' xs ys _ hx hy hl).mono ?_
  rintro e w1 ⟨rfl, hb⟩
  go_wp2
  go_ret
  exact ⟨rfl, hb⟩

end Go.Proofs.Qxb6001841aMods
