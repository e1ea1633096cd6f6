/-
  Shared walks of seat b6600515aM: slices of integers, read and cloned.
-/
import Derived.Test.Qxb6600515aModsRows
import Derived.Test.Qxb6600515aModsPlain
import Derived.WalkKit
import Derived.WalkSpells
import Derived.WalkLawsBesides
import Derived.Deep.QuietTactic
import Derived.BigQuiet
namespace Go.Proofs.Qxb6600515aMods
open Go.RowKit

/-- A slice value of n elements at 'a' reads as the numbers zs. -/
def Ints (w : World) (a : Option Addr) (n : Nat) (zs : List Int) : Prop :=
  n = zs.length ∧ (zs = [] ∨ ∃ b off, a = some ⟨b, off, none⟩ ∧ ∀ i, i < zs.length → w.cell? ⟨b, off + i, none⟩ = some (.int .u64 (zs.getD i 0)))

theorem cell_lt {w : World} {p : Addr} {v : Value} (h : w.cell? p = some v) : p.block < w.heap.size := by
  apply Classical.byContradiction
  intro hn
  have : w.heap[p.block]? = none := by simp; omega
  simp [World.cell?, this] at h

theorem Ints.below {w w' : World} {a : Option Addr} {n : Nat} {zs : List Int} (h : Ints w a n zs) (hb : Below w.heap.size w w') : Ints w' a n zs := by
  refine ⟨h.1, ?_⟩
  rcases h.2 with h | ⟨b, off, ha, hc⟩
  · exact .inl h
  · refine .inr ⟨b, off, ha, fun i hi => ?_⟩
    have := hc i hi
    rw [hb.cell (p := ⟨b, off + i, none⟩) (cell_lt this)]
    exact this

/-! ### zzClone_b1 -/
theorem Trym.cells36 : Trym.prog.cellsOf 36 = 1 := by kernel_rfl
theorem Trym.info36 : (Trym.prog.info? 36).map (fun i => (i.zero, i.size, i.bytes)) = some (some (.int .u64 0), 1, 8) := by kernel_rfl

/-- What the call owns stays owned where nothing that is there turns. -/
theorem owns_below {w w' : World} {base : Nat} {e : TypeId} {size : Nat} {v : Value} {n : Nat} {xs : List Value} (h : w.ownsRow base e size v n xs) (hb : Below w.heap.size w w') : w'.ownsRow base e size v n xs := by
  obtain ⟨h1, h2⟩ := h
  refine ⟨h1, ?_⟩
  rcases h2 with h2 | ⟨g, cap, cur, hv, hg, hh, r⟩
  · exact .inl h2
  · exact .inr ⟨g, cap, cur, hv, hg, by rw [hb.block g (by have := (Array.getElem?_eq_some_iff.1 hh).1; exact this)]; exact hh, r⟩

/-- An owned row of numbers reads as those numbers. -/
theorem ints_of_owns {w : World} {base : Nat} {a : Option Addr} {n c : Nat} {zs : List Int} (h : w.ownsRow base 36 1 (.slice a n c) n (zs.map (Value.int .u64))) : Ints w a n zs := by
  have hn : n = zs.length := by have := h.1; simp at this; omega
  refine ⟨hn, ?_⟩
  rcases h.2 with ⟨_, h2⟩ | ⟨g, cap, cur, hv, hg, hh, r⟩
  · exact .inl (List.length_eq_zero_iff.1 (by omega))
  · right
    simp at hv
    obtain ⟨rfl, _, rfl⟩ := hv
    refine ⟨g, 0, rfl, fun i hi => ?_⟩
    rw [Nat.zero_add, World.ownsRow.cellAt h i (by omega), List.getElem?_map, List.getElem?_eq_getElem hi]
    simp [hi]

theorem clone_nil (c : Nat) (w : World) :
    Calls Trym.prog 9 #[.slice none 0 c] w fun e w' => e = .returned (.slice none 0 0) ∧ Below w.heap.size w w' := by
  have hnil := fun (w : World) => Lib.run_eql_slice_nil (P := Trym.prog) w 22 36 none 0 c 0 0 Trym.underlying22
  go_enter Trym.func9, Trym.ntmps9
  go_wp2
  go_ret
  exact ⟨rfl, Below.refl _ _⟩

/-- The first k values laid, the rest as 'make' left them. -/
def laidV (xs : List Value) (z : Value) (k : Nat) : List Value := xs.take k ++ List.replicate (xs.length - k) z

theorem laidV_zero (xs : List Value) (z : Value) : laidV xs z 0 = List.replicate xs.length z := by simp [laidV]
theorem laidV_all (xs : List Value) (z : Value) : laidV xs z xs.length = xs := by simp [laidV]
theorem laidV_step (xs : List Value) (z : Value) (k : Nat) (u : Value) (h : xs[k]? = some u) : (laidV xs z k).set k u = laidV xs z (k + 1) := by
  obtain ⟨hk, rfl⟩ := List.getElem?_eq_some_iff.1 h
  unfold laidV
  have e : xs.length - k = (xs.length - (k + 1)) + 1 := by omega
  rw [List.set_append_right _ _ (by simp; omega), e, List.replicate_succ, List.take_succ_eq_append_getElem hk]
  simp only [List.length_take, Nat.min_eq_left (Nat.le_of_lt hk), Nat.sub_self, List.set_cons_zero, List.append_assoc, List.singleton_append]
theorem laidV_at (xs : List Value) (z : Value) (k : Nat) (hk : k < xs.length) : (laidV xs z k)[k]? = some z := by
  unfold laidV
  rw [List.getElem?_append_right (by simp; omega)]
  simp [Nat.min_eq_left (Nat.le_of_lt hk), List.getElem?_replicate]
  omega

theorem getD_int (zs : List Int) (k : Nat) (h : k < zs.length) : (zs.map (Value.int .u64))[k]? = some (.int .u64 (zs.getD k 0)) := by
  simp [h]

set_option maxHeartbeats 400000 in
theorem clone_cons (b off c : Nat) (zs : List Int) (w : World) (hl : zs.length ≤ 1048576)
    (hc : ∀ i, i < zs.length → w.cell? ⟨b, off + i, none⟩ = some (.int .u64 (zs.getD i 0))) :
    Calls Trym.prog 9 #[.slice (some ⟨b, off, none⟩) zs.length c] w fun e w' => e = .returned (.slice (some ⟨w.heap.size, 0, none⟩) zs.length zs.length) ∧
      w'.ownsRow w.heap.size 36 1 (.slice (some ⟨w.heap.size, 0, none⟩) zs.length zs.length) zs.length (zs.map (Value.int .u64)) ∧ Below w.heap.size w w' := by
  obtain ⟨i0, hi, hz0, hz1, hz2⟩ := info_parts Trym.info36
  have hnil := fun (w : World) => Lib.run_eql_slice_nil (P := Trym.prog) w 22 36 (some ⟨b, off, none⟩) zs.length c 0 0 Trym.underlying22
  go_enter Trym.func9, Trym.ntmps9
  go_wp2_with (at_make; refine wpList_make_full _ rfl _ _ 22 rfl w.heap.size 36 i0 (.int .u64 0) 1 Trym.underlying22 hi hz0 hz1 _ _ _ _ zs.length rfl rfl rfl rfl ?b1 ?b2 ?b3 ?_)
  case b1 => rw [hz2]; omega
  case b2 => unfold maxLen; omega
  case b3 => exact Nat.le_refl _
  intro w1 hown hgrow
  have hb1 : Below w.heap.size w w1 := (Below.refl _ _).grown hgrow (Nat.le_refl _) (by simp)
  rw [toList_madeCells_one] at hown
  have hown0 : w1.ownsRow w.heap.size 36 1 (.slice (some ⟨w.heap.size, 0, none⟩) zs.length zs.length) zs.length (laidV (zs.map (Value.int .u64)) (.int .u64 0) 0) := by
    rw [laidV_zero]; simpa using hown
  clear hown hgrow hnil hi hz0 hz1 hz2
  go_wp2
  go_loopw [4] (fun i wr => ∃ k : Nat, k ≤ zs.length ∧ i = .int .i64 k ∧ wr.ownsRow w.heap.size 36 1 (.slice (some ⟨w.heap.size, 0, none⟩) zs.length zs.length) zs.length (laidV (zs.map (Value.int .u64)) (.int .u64 0) k) ∧ Below w.heap.size w wr) (fun i _ => zs.length - (intOf i).toNat)
  case atStart => exact ⟨0, Nat.zero_le _, rfl, hown0, hb1⟩
  case round =>
    obtain ⟨k, hk, rfl, hown, hb⟩ := hrel
    clear hown0 hb1
    by_cases hlt : k < zs.length
    · have hck := hc k hlt
      have hck' : wr.cell? ⟨b, off + k, none⟩ = some (.int .u64 (zs.getD k 0)) := by
        rw [hb.cell (p := ⟨b, off + k, none⟩) (cell_lt hck)]; exact hck
      have hz : wr.cell? ⟨w.heap.size, k, none⟩ = some (.int .u64 0) := by
        rw [World.ownsRow.cellAt hown k (by omega), laidV_at _ _ _ (by simpa using hlt)]
      have hfr := World.ownsRow.frozenAt hown k
      have hst := World.ownsRow.stored hown k (.int .u64 (zs.getD k 0))
      rw [laidV_step _ _ _ _ (getD_int zs k hlt)] at hst
      have hb' := hb.setCell (p := ⟨w.heap.size, k, none⟩) (Nat.le_refl _) (.int .u64 (zs.getD k 0))
      clear hck hc hown
      generalize hsk : zs.getD k 0 = s at *
      clear hsk
      go_wp2
      go_roundw
      case rel => exact ⟨k + 1, by omega, by go_num, hst.1, hb'⟩
      case measure => simp [intOf]; omega
    · have hkk : k = zs.length := by omega
      rw [hkk] at hown
      rw [show laidV (zs.map (Value.int .u64)) (.int .u64 0) zs.length = zs.map (Value.int .u64) from by rw [← List.length_map (f := (Value.int .u64)), laidV_all]] at hown
      clear hkk
      go_wp2
      go_ret
      exact ⟨rfl, hown, hb⟩

/-- An empty slice that is not nil. -/
theorem clone_empty (x : Addr) (c : Nat) (w : World) :
    Calls Trym.prog 9 #[.slice (some x) 0 c] w fun e w' => e = .returned (.slice (some ⟨w.heap.size, 0, none⟩) 0 0) ∧
      w'.ownsRow w.heap.size 36 1 (.slice (some ⟨w.heap.size, 0, none⟩) 0 0) 0 [] ∧ Below w.heap.size w w' := by
  obtain ⟨i0, hi, hz0, hz1, hz2⟩ := info_parts Trym.info36
  have hnil := fun (w : World) => Lib.run_eql_slice_nil (P := Trym.prog) w 22 36 (some x) 0 c 0 0 Trym.underlying22
  go_enter Trym.func9, Trym.ntmps9
  go_wp2_with (at_make; refine wpList_make_full _ rfl _ _ 22 rfl w.heap.size 36 i0 (.int .u64 0) 1 Trym.underlying22 hi hz0 hz1 _ _ _ _ 0 rfl rfl rfl rfl ?b1 ?b2 ?b3 ?_)
  case b1 => rw [hz2]; omega
  case b2 => unfold maxLen; omega
  case b3 => exact Nat.le_refl _
  intro w1 hown hgrow
  have hb1 : Below w.heap.size w w1 := (Below.refl _ _).grown hgrow (Nat.le_refl _) (by simp)
  rw [toList_madeCells_one] at hown
  clear hgrow hnil hi hz0 hz1 hz2
  go_wp2
  go_loop [4] (fun i => i = .int .i64 0) (fun _ => 0)
  case atStart => rfl
  case round =>
    obtain rfl := hrel
    go_wp2
    go_ret
    exact ⟨rfl, by simpa using hown, hb1⟩

/-- zzClone_b1: a fresh copy. -/
theorem clone_any (a : Option Addr) (n c : Nat) (zs : List Int) (w : World) (h : Ints w a n zs) (hl : n ≤ 1048576) :
    Calls Trym.prog 9 #[.slice a n c] w fun e w' => ∃ a' c', e = .returned (.slice a' n c') ∧
      w'.ownsRow w.heap.size 36 1 (.slice a' n c') n (zs.map (Value.int .u64)) ∧ Below w.heap.size w w' := by
  obtain ⟨rfl, h⟩ := h
  rcases h with rfl | ⟨b, off, rfl, hc⟩
  · cases a with
    | none => exact (clone_nil c w).mono fun e w' ⟨he, hb⟩ => ⟨none, 0, he, World.ownsRow_nil _ _ _ _, hb⟩
    | some x => exact (clone_empty x c w).mono fun e w' ⟨he, ho, hb⟩ => ⟨_, _, he, ho, hb⟩
  · exact (clone_cons b off c zs w hl hc).mono fun e w' ⟨he, ho, hb⟩ => ⟨_, _, he, ho, hb⟩


/-- The element that a round reads. -/
theorem Ints.at {w : World} {a : Option Addr} {n : Nat} {zs : List Int} (h : Ints w a n zs) {k : Nat} (hk : k < n) :
    ∃ b off z, a = some ⟨b, off, none⟩ ∧ Hid (z = zs.getD k 0) ∧ w.cell? ⟨b, off + k, none⟩ = some (.int .u64 z) := by
  obtain ⟨rfl, h⟩ := h
  rcases h with rfl | ⟨b, off, rfl, hc⟩
  · simp at hk
  · exact ⟨b, off, _, rfl, rfl, hc k hk⟩

theorem Ints.cellOf {w : World} {b off : Nat} {n : Nat} {zs : List Int} (h : Ints w (some ⟨b, off, none⟩) n zs) {k : Nat} (hk : k < n) : w.cell? ⟨b, off + k, none⟩ = some (.int .u64 (zs.getD k 0)) := by
  obtain ⟨b', off', z, e, hz, hc⟩ := h.at hk
  simp at e
  obtain ⟨rfl, rfl⟩ := e
  rw [hc, hz.out]

/-- zzMin_b1. -/
theorem min7 (m n : Nat) (w : World) :
    Calls Trym.prog 7 #[.int .i64 m, .int .i64 n] w fun e w' => e = .returned (.int .i64 (min m n : Nat)) ∧ w' = w := by
  by_cases h : m < n
  · have e : Hid (min m n = m) := by show min m n = m; omega
    go_enter Trym.func7, Trym.ntmps7
    go_wp2
    go_ret
    exact ⟨by rw [e.out]; rfl, rfl⟩
  · have e : Hid (min m n = n) := by show min m n = n; omega
    go_enter Trym.func7, Trym.ntmps7
    go_wp2
    go_ret
    exact ⟨by rw [e.out]; rfl, rfl⟩

/-- The byte bound: it only computes. -/
theorem zz6 (a0 : Option Addr) (n0 c0 : Nat) (a1 : Option Addr) (n1 c1 : Nat) (a2 : Option Addr) (n2 c2 : Nat) (a3 : Option Addr) (n3 c3 : Nat) (w : World) :
    Calls Trym.prog 6 #[.slice a0 n0 c0, .slice a1 n1 c1, .slice a2 n2 c2, .slice a3 n3 c3] w fun e w' => (e = .returned (.bool false) ∨ e = .returned (.bool true) ∧ n0 ≤ 1048576 ∧ n1 ≤ 1048576 ∧ n2 ≤ 1048576 ∧ n3 ≤ 1048576) ∧ w' = w := by
  go_enter Trym.func6, Trym.ntmps6
  go_wp2
  all_goals go_ret
  all_goals first | exact ⟨.inl rfl, rfl⟩ | exact ⟨.inr ⟨rfl, by omega, by omega, by omega, by omega⟩, rfl⟩

set_option maxHeartbeats 400000 in
/-- zzStrictlyIncreasing_b1: if it says yes, neighbours are in order. -/
theorem inc8 (a : Option Addr) (n c : Nat) (zs : List Int) (m : Nat) (w : World) (h : Ints w a n zs) (hm : m ≤ n) (hl : n ≤ 65536) :
    Calls Trym.prog 8 #[.slice a n c, .int .i64 m] w fun e w' => (e = .returned (.bool false) ∨ e = .returned (.bool true) ∧ ∀ i, 1 ≤ i → i < m → zs.getD (i - 1) 0 < zs.getD i 0) ∧ Below w.heap.size w w' := by
  go_enter Trym.func8, Trym.ntmps8
  go_wp2
  go_loopw [5] (fun i wr => ∃ k : Nat, 1 ≤ k ∧ i = .int .i64 k ∧ (∀ i, 1 ≤ i → i < k → i < m → zs.getD (i - 1) 0 < zs.getD i 0) ∧ Below w.heap.size w wr) (fun i _ => m - (intOf i).toNat)
  case atStart => exact ⟨1, Nat.le_refl _, rfl, fun i h1 h2 => by omega, Below.refl _ _⟩
  case round =>
    obtain ⟨k, hk, rfl, hv, hb⟩ := hrel
    have HV : Hid (∀ i, 1 ≤ i → i < k → i < m → zs.getD (i - 1) 0 < zs.getD i 0) := hv
    clear hv
    have h' := h.below hb
    clear h
    by_cases hlt : k < m
    · obtain ⟨b, off, z, rfl, hz, hc⟩ := h'.at (k := k) (by omega)
      obtain ⟨j, rfl⟩ : ∃ j, k = j + 1 := ⟨k - 1, by omega⟩
      have hcj := h'.cellOf (k := j) (by omega)
      have HY : Hid (zs.getD j 0 = zs.getD (j + 1 - 1) 0) := rfl
      generalize zs.getD j 0 = y at hcj HY
      have hj1 : (0 : Int) ≤ (j : Int) := by omega
      have hj2 : (j : Int) + 1 < (n : Int) := by omega
      have hj3 : (j : Int) < (n : Int) := by omega
      have hj4 : (j : Int) ≤ 65536 := by omega
      clear h'
      go_wp2
      go_quiet (fail)
      go_wp2
      · go_ret
        exact ⟨.inl rfl, below_drewN hb _⟩
      · have hyz : y < z := by assumption
        go_roundw
        case rel =>
          refine ⟨j + 2, by omega, by go_num, fun i h1 h2 h3 => ?_, below_drewN hb _⟩
          by_cases e : i = j + 1
          · subst e; rw [← HY.out, ← hz.out]; exact hyz
          · exact HV.out i h1 (by omega) h3
        case measure => simp [intOf]; omega
    · go_wp2
      go_ret
      exact ⟨.inr ⟨rfl, fun i h1 h2 => HV.out i h1 (by omega) h2⟩, hb⟩

set_option maxHeartbeats 400000 in
/-- zzLookup_b1: the device's counter. -/
theorem look18 (a : Option Addr) (n c : Nat) (zs : List Int) (a' : Option Addr) (n' c' : Nat) (ys : List Int) (m : Nat) (x : Int) (w : World) (h : Ints w a n zs) (h' : Ints w a' n' ys) (hm : m = min n n') (hl : n ≤ 65536)
    (hinc : Hid (∀ i, 1 ≤ i → i < m → zs.getD (i - 1) 0 < zs.getD i 0)) :
    Calls Trym.prog 18 #[.slice a n c, .slice a' n' c', .int .i64 m, .int .u64 x] w fun e w' => e = .returned (.int .u64 (lk (pairs zs ys) x)) ∧ w' = w := by
  have hm1 : m ≤ n := by omega
  have hm2 : m ≤ n' := by omega
  have HM : Hid (m = min zs.length ys.length) := by show m = _; rw [hm, h.1, h'.1]
  clear hm
  go_enter Trym.func18, Trym.ntmps18
  go_wp2
  go_loop [9, 10] (fun l r => ∃ lo hi : Nat, l = .int .i64 lo ∧ r = .int .i64 hi ∧ lo ≤ hi ∧ hi ≤ m ∧ (∀ i, i < lo → zs.getD i 0 < x) ∧ (∀ i, hi ≤ i → i < m → x ≤ zs.getD i 0)) (fun l r => (intOf r - intOf l).toNat)
  case atStart => exact ⟨0, m, rfl, rfl, Nat.zero_le _, Nat.le_refl _, fun i hi => by omega, fun i h1 h2 => by omega⟩
  case round =>
    obtain ⟨lo, hi, rfl, rfl, hlh, hhm, hlow, hhigh⟩ := hrel
    have HL : Hid (∀ i, i < lo → zs.getD i 0 < x) := hlow
    have HH : Hid (∀ i, hi ≤ i → i < m → x ≤ zs.getD i 0) := hhigh
    clear hlow hhigh
    by_cases hlt : lo < hi
    · obtain ⟨b, off, z, rfl, hz, hc⟩ := h.at (k := lo + (hi - lo) / 2) (by omega)
      have hmid : Hid ((lo : Int) + ((hi : Int) - lo) / 2 = ((lo + (hi - lo) / 2 : Nat) : Int)) := by show _ = _; omega
      have hchain := fun {i j : Nat} => lt_of_chain (f := fun k => zs.getD k 0) hinc.out (i := i) (j := j)
      have HC : Hid (∀ {i j : Nat}, i < j → j < m → zs.getD i 0 < zs.getD j 0) := hchain
      clear hchain
      go_wp2
      · have hzx : z < x := by assumption
        go_round
        case rel =>
          refine ⟨lo + (hi - lo) / 2 + 1, hi, by go_num, rfl, by omega, hhm, fun i hi' => ?_, HH.out⟩
          by_cases e : i = lo + (hi - lo) / 2
          · subst e; rw [← hz.out]; exact hzx
          · have h1 : zs.getD i 0 < zs.getD (lo + (hi - lo) / 2) 0 := HC.out (by omega) (by omega)
            rw [← hz.out] at h1
            omega
        case measure => simp [intOf]; omega
      · have hzx : x ≤ z := by assumption
        go_round
        case rel =>
          refine ⟨lo, lo + (hi - lo) / 2, rfl, by go_num, by omega, by omega, HL.out, fun i h1 h2 => ?_⟩
          by_cases e : i = lo + (hi - lo) / 2
          · subst e; rw [← hz.out]; exact hzx
          · have h3 : zs.getD (lo + (hi - lo) / 2) 0 < zs.getD i 0 := HC.out (by omega) (by omega)
            rw [← hz.out] at h3
            omega
        case measure => simp [intOf]; omega
    · obtain rfl : lo = hi := by omega
      clear hlt
      by_cases hln : lo < m
      · obtain ⟨b, off, z, rfl, hz, hc⟩ := h.at (k := lo) (by omega)
        obtain ⟨b', off', y, rfl, hy, hc'⟩ := h'.at (k := lo) (by omega)
        go_wp2
        · have hzx : (z == x) = true := by assumption
          go_ret
          refine ⟨?_, rfl⟩
          rw [look_hit HM.out hln HL.out (by rw [← hz.out]; simpa using hzx), ← hy.out]
          rfl
        · have hzx : (z == x) = false := by assumption
          go_ret
          refine ⟨?_, rfl⟩
          rw [look_miss HM.out HL.out HH.out hinc.out (fun _ => by rw [← hz.out]; simpa using hzx)]
          rfl
      · go_wp2
        go_ret
        refine ⟨?_, rfl⟩
        rw [look_miss HM.out HL.out HH.out hinc.out (fun h => absurd h hln)]
        rfl

end Go.Proofs.Qxb6600515aMods
