/-
  Shared walks of seat b6601019aM: slices of integers, read and cloned.
-/
import Derived.Test.Qxb6601019aModsRows
import Derived.WalkKit
import Derived.WalkSpells
import Derived.WalkLawsBesides
import Derived.Deep.QuietTactic
import Derived.BigQuiet
namespace Go.Proofs.Qxb6601019aMods
open Go.RowKit

/-- A length as a value. -/
def lenV (n : Nat) : Value := .int .u32 (n : Int)

/-- A slice value of n elements at 'a' reads as the numbers zs. -/
def Lens (w : World) (a : Option Addr) (n : Nat) (zs : List Nat) : Prop :=
  n = zs.length ∧ (zs = [] ∨ ∃ b off, a = some ⟨b, off, none⟩ ∧ ∀ i, i < zs.length → w.cell? ⟨b, off + i, none⟩ = some (.int .u32 (zs.getD i 0 : Nat)))

theorem cell_lt {w : World} {p : Addr} {v : Value} (h : w.cell? p = some v) : p.block < w.heap.size := by
  apply Classical.byContradiction
  intro hn
  have : w.heap[p.block]? = none := by simp; omega
  simp [World.cell?, this] at h

theorem Lens.below {w w' : World} {a : Option Addr} {n : Nat} {zs : List Nat} (h : Lens w a n zs) (hb : Below w.heap.size w w') : Lens w' a n zs := by
  refine ⟨h.1, ?_⟩
  rcases h.2 with h | ⟨b, off, ha, hc⟩
  · exact .inl h
  · refine .inr ⟨b, off, ha, fun i hi => ?_⟩
    have := hc i hi
    rw [hb.cell (p := ⟨b, off + i, none⟩) (cell_lt this)]
    exact this

/-! ### zzCopyLens -/
theorem Trym.cells51 : Trym.prog.cellsOf 51 = 1 := by kernel_rfl
theorem Trym.info51 : (Trym.prog.info? 51).map (fun i => (i.zero, i.size, i.bytes)) = some (some (.int .u32 0), 1, 4) := by kernel_rfl

/-- What the call owns stays owned where nothing that is there turns. -/
theorem owns_below {w w' : World} {base : Nat} {e : TypeId} {size : Nat} {v : Value} {n : Nat} {xs : List Value} (h : w.ownsRow base e size v n xs) (hb : Below w.heap.size w w') : w'.ownsRow base e size v n xs := by
  obtain ⟨h1, h2⟩ := h
  refine ⟨h1, ?_⟩
  rcases h2 with h2 | ⟨g, cap, cur, hv, hg, hh, r⟩
  · exact .inl h2
  · exact .inr ⟨g, cap, cur, hv, hg, by rw [hb.block g (by have := (Array.getElem?_eq_some_iff.1 hh).1; exact this)]; exact hh, r⟩

/-- An owned row of numbers reads as those numbers. -/
theorem lens_of_owns {w : World} {base : Nat} {a : Option Addr} {n c : Nat} {zs : List Nat} (h : w.ownsRow base 51 1 (.slice a n c) n (zs.map lenV)) : Lens w a n zs := by
  have hn : n = zs.length := by have := h.1; simp at this; omega
  refine ⟨hn, ?_⟩
  rcases h.2 with ⟨_, h2⟩ | ⟨g, cap, cur, hv, hg, hh, r⟩
  · exact .inl (List.length_eq_zero_iff.1 (by omega))
  · right
    simp at hv
    obtain ⟨rfl, _, rfl⟩ := hv
    refine ⟨g, 0, rfl, fun i hi => ?_⟩
    rw [Nat.zero_add, World.ownsRow.cellAt h i (by omega), List.getElem?_map, List.getElem?_eq_getElem hi]
    simp [hi]
    rfl

theorem clone_nil (c : Nat) (w : World) :
    Calls Trym.prog 11 #[.slice none 0 c] w fun e w' => e = .returned (.slice none 0 0) ∧ Below w.heap.size w w' := by
  have hnil := fun (w : World) => Lib.run_eql_slice_nil (P := Trym.prog) w 22 51 none 0 c 0 0 Trym.underlying22
  go_enter Trym.func11, Trym.ntmps11
  go_wp2
  go_ret
  exact ⟨rfl, Below.refl _ _⟩

/-- The first k values laid, the rest as 'make' left them. -/
def laidV (xs : List Value) (z : Value) (k : Nat) : List Value := xs.take k ++ List.replicate (xs.length - k) z

theorem laidV_zero (xs : List Value) (z : Value) : laidV xs z 0 = List.replicate xs.length z := by simp [laidV]
theorem laidV_all (xs : List Value) (z : Value) : laidV xs z xs.length = xs := by simp [laidV]
theorem laidV_step (xs : List Value) (z : Value) (k : Nat) (u : Value) (h : xs[k]? = some u) : (laidV xs z k).set k u = laidV xs z (k + 1) := by
  obtain ⟨hk, rfl⟩ := List.getElem?_eq_some_iff.1 h
  unfold laidV
  have e : xs.length - k = (xs.length - (k + 1)) + 1 := by omega
  rw [List.set_append_right _ _ (by simp; omega), e, List.replicate_succ, List.take_succ_eq_append_getElem hk]
  simp only [List.length_take, Nat.min_eq_left (Nat.le_of_lt hk), Nat.sub_self, List.set_cons_zero, List.append_assoc, List.singleton_append]
theorem laidV_at (xs : List Value) (z : Value) (k : Nat) (hk : k < xs.length) : (laidV xs z k)[k]? = some z := by
  unfold laidV
  rw [List.getElem?_append_right (by simp; omega)]
  simp [Nat.min_eq_left (Nat.le_of_lt hk), List.getElem?_replicate]
  omega

theorem getD_int (zs : List Nat) (k : Nat) (h : k < zs.length) : (zs.map lenV)[k]? = some (.int .u32 (zs.getD k 0 : Nat)) := by
  simp [h]
  rfl

set_option maxHeartbeats 400000 in
theorem clone_cons (b off c : Nat) (zs : List Nat) (w : World) (hl : zs.length ≤ 1048576)
    (hc : ∀ i, i < zs.length → w.cell? ⟨b, off + i, none⟩ = some (.int .u32 (zs.getD i 0 : Nat))) :
    Calls Trym.prog 11 #[.slice (some ⟨b, off, none⟩) zs.length c] w fun e w' => e = .returned (.slice (some ⟨w.heap.size, 0, none⟩) zs.length zs.length) ∧
      w'.ownsRow w.heap.size 51 1 (.slice (some ⟨w.heap.size, 0, none⟩) zs.length zs.length) zs.length (zs.map lenV) ∧ Below w.heap.size w w' := by
  obtain ⟨i0, hi, hz0, hz1, hz2⟩ := info_parts Trym.info51
  have hnil := fun (w : World) => Lib.run_eql_slice_nil (P := Trym.prog) w 22 51 (some ⟨b, off, none⟩) zs.length c 0 0 Trym.underlying22
  go_enter Trym.func11, Trym.ntmps11
  go_wp2_with (at_make; refine wpList_make_full _ rfl _ _ 22 rfl w.heap.size 51 i0 (.int .u32 0) 1 Trym.underlying22 hi hz0 hz1 _ _ _ _ zs.length rfl rfl rfl rfl ?b1 ?b2 ?b3 ?_)
  case b1 => rw [hz2]; omega
  case b2 => unfold maxLen; omega
  case b3 => exact Nat.le_refl _
  intro w1 hown hgrow
  have hb1 : Below w.heap.size w w1 := (Below.refl _ _).grown hgrow (Nat.le_refl _) (by simp)
  rw [toList_madeCells_one] at hown
  have hown0 : w1.ownsRow w.heap.size 51 1 (.slice (some ⟨w.heap.size, 0, none⟩) zs.length zs.length) zs.length (laidV (zs.map lenV) (.int .u32 0) 0) := by
    rw [laidV_zero]; simpa using hown
  clear hown hgrow hnil hi hz0 hz1 hz2
  go_wp2
  go_loopw [4] (fun i wr => ∃ k : Nat, k ≤ zs.length ∧ i = .int .i64 k ∧ wr.ownsRow w.heap.size 51 1 (.slice (some ⟨w.heap.size, 0, none⟩) zs.length zs.length) zs.length (laidV (zs.map lenV) (.int .u32 0) k) ∧ Below w.heap.size w wr) (fun i _ => zs.length - (intOf i).toNat)
  case atStart => exact ⟨0, Nat.zero_le _, rfl, hown0, hb1⟩
  case round =>
    obtain ⟨k, hk, rfl, hown, hb⟩ := hrel
    clear hown0 hb1
    by_cases hlt : k < zs.length
    · have hck := hc k hlt
      have hck' : wr.cell? ⟨b, off + k, none⟩ = some (.int .u32 (zs.getD k 0 : Nat)) := by
        rw [hb.cell (p := ⟨b, off + k, none⟩) (cell_lt hck)]; exact hck
      have hz : wr.cell? ⟨w.heap.size, k, none⟩ = some (.int .u32 0) := by
        rw [World.ownsRow.cellAt hown k (by omega), laidV_at _ _ _ (by simpa using hlt)]
      have hfr := World.ownsRow.frozenAt hown k
      have hst := World.ownsRow.stored hown k (.int .u32 (zs.getD k 0 : Nat))
      rw [laidV_step _ _ _ _ (getD_int zs k hlt)] at hst
      have hb' := hb.setCell (p := ⟨w.heap.size, k, none⟩) (Nat.le_refl _) (.int .u32 (zs.getD k 0 : Nat))
      clear hck hc hown
      generalize hsk : zs.getD k 0 = s at *
      clear hsk
      go_wp2
      go_roundw
      case rel => exact ⟨k + 1, by omega, by go_num, hst.1, hb'⟩
      case measure => simp [intOf]; omega
    · have hkk : k = zs.length := by omega
      rw [hkk] at hown
      rw [show laidV (zs.map lenV) (.int .u32 0) zs.length = zs.map lenV from by rw [← List.length_map (f := lenV), laidV_all]] at hown
      clear hkk
      go_wp2
      go_ret
      exact ⟨rfl, hown, hb⟩

/-- An empty slice that is not nil. -/
theorem clone_empty (x : Addr) (c : Nat) (w : World) :
    Calls Trym.prog 11 #[.slice (some x) 0 c] w fun e w' => e = .returned (.slice (some ⟨w.heap.size, 0, none⟩) 0 0) ∧
      w'.ownsRow w.heap.size 51 1 (.slice (some ⟨w.heap.size, 0, none⟩) 0 0) 0 [] ∧ Below w.heap.size w w' := by
  obtain ⟨i0, hi, hz0, hz1, hz2⟩ := info_parts Trym.info51
  have hnil := fun (w : World) => Lib.run_eql_slice_nil (P := Trym.prog) w 22 51 (some x) 0 c 0 0 Trym.underlying22
  go_enter Trym.func11, Trym.ntmps11
  go_wp2_with (at_make; refine wpList_make_full _ rfl _ _ 22 rfl w.heap.size 51 i0 (.int .u32 0) 1 Trym.underlying22 hi hz0 hz1 _ _ _ _ 0 rfl rfl rfl rfl ?b1 ?b2 ?b3 ?_)
  case b1 => rw [hz2]; omega
  case b2 => unfold maxLen; omega
  case b3 => exact Nat.le_refl _
  intro w1 hown hgrow
  have hb1 : Below w.heap.size w w1 := (Below.refl _ _).grown hgrow (Nat.le_refl _) (by simp)
  rw [toList_madeCells_one] at hown
  clear hgrow hnil hi hz0 hz1 hz2
  go_wp2
  go_loop [4] (fun i => i = .int .i64 0) (fun _ => 0)
  case atStart => rfl
  case round =>
    obtain rfl := hrel
    go_wp2
    go_ret
    exact ⟨rfl, by simpa using hown, hb1⟩

/-- zzCopyLens: a fresh copy. -/
theorem clone_any (a : Option Addr) (n c : Nat) (zs : List Nat) (w : World) (h : Lens w a n zs) (hl : n ≤ 1048576) :
    Calls Trym.prog 11 #[.slice a n c] w fun e w' => ∃ a' c', e = .returned (.slice a' n c') ∧
      w'.ownsRow w.heap.size 51 1 (.slice a' n c') n (zs.map lenV) ∧ Below w.heap.size w w' := by
  obtain ⟨rfl, h⟩ := h
  rcases h with rfl | ⟨b, off, rfl, hc⟩
  · cases a with
    | none => exact (clone_nil c w).mono fun e w' ⟨he, hb⟩ => ⟨none, 0, he, World.ownsRow_nil _ _ _ _, hb⟩
    | some x => exact (clone_empty x c w).mono fun e w' ⟨he, ho, hb⟩ => ⟨_, _, he, ho, hb⟩
  · exact (clone_cons b off c zs w hl hc).mono fun e w' ⟨he, ho, hb⟩ => ⟨_, _, he, ho, hb⟩



/-- The element that a round reads. -/
theorem Lens.at {w : World} {a : Option Addr} {n : Nat} {zs : List Nat} (h : Lens w a n zs) {k : Nat} (hk : k < n) :
    ∃ b off z, a = some ⟨b, off, none⟩ ∧ Hid (z = zs.getD k 0) ∧ w.cell? ⟨b, off + k, none⟩ = some (.int .u32 (z : Nat)) := by
  obtain ⟨rfl, h⟩ := h
  rcases h with rfl | ⟨b, off, rfl, hc⟩
  · simp at hk
  · exact ⟨b, off, _, rfl, rfl, hc k hk⟩

/-- The byte bound: it only computes. -/
theorem zz9 (a0 : Option Addr) (n0 c0 : Nat) (w : World) :
    Calls Trym.prog 9 #[.slice a0 n0 c0] w fun e w' => (e = .returned (.bool false) ∨ e = .returned (.bool true) ∧ n0 ≤ 1048576) ∧ w' = w := by
  go_enter Trym.func9, Trym.ntmps9
  go_wp2
  all_goals go_ret
  all_goals first | exact ⟨.inl rfl, rfl⟩ | exact ⟨.inr ⟨rfl, by omega⟩, rfl⟩

/-- zzLensInRange: if it says yes, no length is beyond 2 MiB. -/
theorem range10 (a : Option Addr) (n c : Nat) (zs : List Nat) (w : World) (h : Lens w a n zs) (hl : n ≤ 4096) :
    Calls Trym.prog 10 #[.slice a n c] w fun e w' => (e = .returned (.bool false) ∨ e = .returned (.bool true) ∧ ∀ i, i < n → zs.getD i 0 ≤ 2097152) ∧ w' = w := by
  go_enter Trym.func10, Trym.ntmps10
  go_wp2
  go_loop [3] (fun i => ∃ k : Nat, k ≤ n ∧ i = .int .i64 k ∧ ∀ i, i < k → zs.getD i 0 ≤ 2097152) (fun i => n - (intOf i).toNat)
  case atStart => exact ⟨0, Nat.zero_le _, rfl, fun i hi => by omega⟩
  case round =>
    obtain ⟨k, hk, rfl, hv⟩ := hrel
    have HV : Hid (∀ i, i < k → zs.getD i 0 ≤ 2097152) := hv
    clear hv
    by_cases hlt : k < n
    · obtain ⟨b, off, z, rfl, hz, hc⟩ := h.at hlt
      by_cases hzl : z ≤ 2097152
      · go_wp2
        go_round
        case rel =>
          refine ⟨k + 1, by omega, by go_num, fun i hi => ?_⟩
          by_cases e : i = k
          · subst e; rw [← hz.out]; exact hzl
          · exact HV.out i (by omega)
        case measure => simp [intOf]; omega
      · go_wp2
        go_ret
        exact ⟨.inl rfl, rfl⟩
    · go_wp2
      go_ret
      exact ⟨.inr ⟨rfl, fun i hi => HV.out i (by omega)⟩, rfl⟩

/-- The sum of the first k. -/
def sumTo (zs : List Nat) (k : Nat) : Nat := (zs.take k).sum

theorem sumTo_zero (zs : List Nat) : sumTo zs 0 = 0 := by simp [sumTo]
theorem sumTo_succ (zs : List Nat) (k : Nat) (h : k < zs.length) : sumTo zs (k + 1) = sumTo zs k + zs.getD k 0 := by
  unfold sumTo
  rw [List.take_succ_eq_append_getElem h, List.sum_append]
  simp [h]
theorem sumTo_step {zs : List Nat} {k n z : Nat} (hn : n = zs.length) (h : k < n) (hz : z = zs.getD k 0) : sumTo zs (k + 1) = sumTo zs k + z := by
  rw [sumTo_succ zs k (by omega), hz]
theorem sumTo_le {zs : List Nat} {n : Nat} (hn : n = zs.length) (hb : ∀ i, i < n → zs.getD i 0 ≤ 2097152) : ∀ k, k ≤ n → sumTo zs k ≤ k * 2097152 := by
  intro k
  induction k with
  | zero => intro _; have h := sumTo_zero zs; omega
  | succ k ih =>
    intro hk
    have h1 := ih (by omega)
    have h2 := hb k (by omega)
    rw [sumTo_succ zs k (by omega)]
    omega
theorem sumTo_mono {zs : List Nat} {i j n : Nat} (hn : n = zs.length) (hij : i ≤ j) (hj : j ≤ n) : sumTo zs i ≤ sumTo zs j := by
  obtain ⟨d, rfl⟩ : ∃ d, j = i + d := ⟨j - i, by omega⟩
  clear hij
  induction d with
  | zero => exact Nat.le_refl _
  | succ d ih =>
    have h1 := ih (by omega)
    have h2 := sumTo_succ zs (i + d) (by omega)
    have e : i + (d + 1) = i + d + 1 := by omega
    rw [e, h2]
    omega

/-- What fitRequest gives. -/
def Fits (zs : List Nat) (n k : Nat) : Prop := k ≤ n ∧ (0 < n → 1 ≤ k) ∧ (∀ i, 1 ≤ i → i < k → sumTo zs (i + 1) ≤ 1048576) ∧ (k < n → 1048576 < sumTo zs (k + 1))
/-- What the model gives. -/
def Longest (zs : List Nat) (n k : Nat) : Prop := k ≤ n ∧ (0 < n → 1 ≤ k) ∧ (2 ≤ k → sumTo zs k ≤ 1048576) ∧ (k < n → 1048576 < sumTo zs (k + 1))

theorem fits_eq {zs : List Nat} {n k j : Nat} (hn : n = zs.length) (hk : Fits zs n k) (hj : Longest zs n j) : k = j := by
  obtain ⟨k1, k2, k3, k4⟩ := hk
  obtain ⟨j1, j2, j3, j4⟩ := hj
  apply Classical.byContradiction
  intro hne
  by_cases h : k < j
  · have h1 := k2 (by omega)
    have h2 := k4 (by omega)
    have h3 := j3 (by omega)
    have h4 := sumTo_mono (zs := zs) hn (i := k + 1) (j := j) (by omega) j1
    omega
  · have h1 := j2 (by omega)
    have h2 := j4 (by omega)
    have h3 := k3 j h1 (by omega)
    omega

end Go.Proofs.Qxb6601019aMods
