/-
  ZZMakeTable: a table of names.
-/
import Derived.Test.Qxb6001841aModsBase
namespace Go.Proofs.Qxb6001841aMods
open Go.RowKit

theorem Trym.cells37 : Trym.prog.cellsOf 37 = 6 := by kernel_rfl
theorem Trym.info37 : (Trym.prog.info? 37).map (fun i => (i.zero, i.size, i.bytes)) = some (some (.agg #[.string ⟨#[]⟩, .int .i64 0, .int .i64 0, .bool false, .string ⟨#[]⟩, .string ⟨#[]⟩]), 6, 72) := by kernel_rfl

/-- One column's cells. -/
def colCells (s : ByteArray) : List Value := [.string s, .int .i64 0, .int .i64 0, .bool false, .string ⟨#[]⟩, .string ⟨#[]⟩]

/-- Column i of the row at block g bears the name s and nothing else; the row is not frozen. -/
structure TabAt (w : World) (g i : Nat) (s : ByteArray) : Prop where
  c0 : w.cell? ⟨g, i * 6, none⟩ = some (.string s)
  c1 : w.cell? ⟨g, i * 6 + 1, none⟩ = some (.int .i64 0)
  c2 : w.cell? ⟨g, i * 6 + 2, none⟩ = some (.int .i64 0)
  c3 : w.cell? ⟨g, i * 6 + 3, none⟩ = some (.bool false)
  c4 : w.cell? ⟨g, i * 6 + 4, none⟩ = some (.string ⟨#[]⟩)
  c5 : w.cell? ⟨g, i * 6 + 5, none⟩ = some (.string ⟨#[]⟩)

theorem TabAt.of_block {w w' : World} {g i : Nat} {s : ByteArray} (h : TabAt w g i s) (hb : w'.heap[g]? = w.heap[g]?) : TabAt w' g i s := by
  have e : ∀ o, w'.cell? ⟨g, o, none⟩ = w.cell? ⟨g, o, none⟩ := fun o => World.cell?_of_block (w := w) hb
  exact ⟨(e _).trans h.c0, (e _).trans h.c1, (e _).trans h.c2, (e _).trans h.c3, (e _).trans h.c4, (e _).trans h.c5⟩

theorem TabAt.lt {w : World} {g i : Nat} {s : ByteArray} (h : TabAt w g i s) : g < w.heap.size := cell_lt h.c0

theorem TabAt.store {w : World} {g i k : Nat} {s t : ByteArray} (h : TabAt w g i s) (hk : i ≠ k) : TabAt (w.setCells g (k * 6) (colCells t)) g i s := by
  have e : ∀ j, j < 6 → (w.setCells g (k * 6) (colCells t)).cell? ⟨g, i * 6 + j, none⟩ = w.cell? ⟨g, i * 6 + j, none⟩ := fun j hj =>
    World.cell?_setCells_out g _ _ w _ (fun _ _ => by simp [colCells]; omega)
  exact ⟨(e 0 (by omega)).trans h.c0, (e 1 (by omega)).trans h.c1, (e 2 (by omega)).trans h.c2, (e 3 (by omega)).trans h.c3, (e 4 (by omega)).trans h.c4, (e 5 (by omega)).trans h.c5⟩

theorem TabAt.stored {w : World} {g k : Nat} {s t : ByteArray} (h : TabAt w g k s) : TabAt (w.setCells g (k * 6) (colCells t)) g k t := by
  have hs : ∀ j, j < (colCells t).length → (w.cell? ⟨g, k * 6 + j, none⟩).isSome = true := by
    intro j hj
    simp [colCells] at hj
    match j, hj with
    | 0, _ => rw [Nat.add_zero, h.c0]; rfl
    | 1, _ => rw [h.c1]; rfl
    | 2, _ => rw [h.c2]; rfl
    | 3, _ => rw [h.c3]; rfl
    | 4, _ => rw [h.c4]; rfl
    | 5, _ => rw [h.c5]; rfl
  have e := fun j hj => World.cell?_setCells_in g (colCells t) (k * 6) w hs j hj
  exact ⟨e 0 (by simp [colCells]), e 1 (by simp [colCells]), e 2 (by simp [colCells]), e 3 (by simp [colCells]), e 4 (by simp [colCells]), e 5 (by simp [colCells])⟩

/-- What the row holds behind k rounds. -/
def Tab (w : World) (g n : Nat) (ss : List ByteArray) (k : Nat) : Prop :=
  (∀ i, i < n → TabAt w g i (if i < k then ss.getD i ByteArray.empty else ⟨#[]⟩)) ∧ ∀ o, w.frozen? ⟨g, o, none⟩ = false

theorem made_at (n i j : Nat) (h : i < n) (hj : j < 6) : (madeCells #[Value.string ⟨#[]⟩, .int .i64 0, .int .i64 0, .bool false, .string ⟨#[]⟩, .string ⟨#[]⟩] (n * 6)).toList[i * 6 + j]? = (colCells ⟨#[]⟩)[j]? := by
  have h2 : i * 6 + j < n * 6 := by omega
  have h3 : (i * 6 + j) % 6 = j := by omega
  simp [madeCells, h2, h3]
  match j, hj with
  | 0, _ => rfl
  | 1, _ => rfl
  | 2, _ => rfl
  | 3, _ => rfl
  | 4, _ => rfl
  | 5, _ => rfl

theorem tab_made {w : World} {base g n : Nat} (ss : List ByteArray) (h : w.ownsRow base 37 6 (.slice (some ⟨g, 0, none⟩) n n) n (madeCells #[Value.string ⟨#[]⟩, .int .i64 0, .int .i64 0, .bool false, .string ⟨#[]⟩, .string ⟨#[]⟩] (n * 6)).toList) : Tab w g n ss 0 := by
  refine ⟨fun i hi => ?_, fun o => h.frozenAt o⟩
  rw [if_neg (by omega)]
  have e : ∀ j, j < 6 → w.cell? ⟨g, i * 6 + j, none⟩ = (colCells ⟨#[]⟩)[j]? := fun j hj => by rw [h.cellAt (i * 6 + j) (by omega), made_at n i j hi hj]
  exact ⟨e 0 (by omega), e 1 (by omega), e 2 (by omega), e 3 (by omega), e 4 (by omega), e 5 (by omega)⟩

theorem Tab.step {w : World} {g n : Nat} {ss : List ByteArray} {k : Nat} (h : Tab w g n ss k) (hk : k < n) : Tab (w.setCells g (k * 6) (colCells (ss.getD k ByteArray.empty))) g n ss (k + 1) := by
  refine ⟨fun i hi => ?_, fun o => (World.frozen?_setCells g _ _ w _).trans (h.2 o)⟩
  by_cases e : i = k
  · subst e
    rw [if_pos (by omega)]
    exact (h.1 i hi).stored
  · have := (h.1 i hi).store (t := ss.getD k ByteArray.empty) e
    by_cases e2 : i < k
    · rw [if_pos e2] at this; rw [if_pos (by omega)]; exact this
    · rw [if_neg e2] at this; rw [if_neg (by omega)]; exact this

theorem Tab.of_block {w w' : World} {g n : Nat} {ss : List ByteArray} {k : Nat} (h : Tab w g n ss k) (hb : w'.heap[g]? = w.heap[g]?) : Tab w' g n ss k :=
  ⟨fun i hi => (h.1 i hi).of_block hb, fun o => (World.frozen?_of_block (w := w) hb).trans (h.2 o)⟩

theorem below_setCells {B g : Nat} {a w : World} (h : Below B a w) (hg : B ≤ g) (vs : List Value) (o : Nat) : Below B a (w.setCells g o vs) := by
  induction vs generalizing w o with
  | nil => exact h
  | cons v r ih => exact ih (h.setCell (p := ⟨g, o, none⟩) hg v) (o + 1)

set_option maxHeartbeats 1000000 in
theorem table_cons (t : ByteArray) (b off c : Nat) (ss : List ByteArray) (w : World) (hl : ss.length ≤ 1048576)
    (hc : ∀ i, i < ss.length → w.cell? ⟨b, off + i, none⟩ = some (.string (ss.getD i ByteArray.empty))) :
    Calls Trym.prog 10 #[.string t, .slice (some ⟨b, off, none⟩) ss.length c] w fun e w' => e = .returned (.agg #[.string t, .slice (some ⟨w.heap.size + 1, 0, none⟩) ss.length ss.length, .slice none 0 0]) ∧
       Tab w' (w.heap.size + 1) ss.length ss ss.length ∧ w.heap.size + 1 < w'.heap.size ∧ Below w.heap.size w w' := by
  obtain ⟨i0, hi, hz0, hz1, hz2⟩ := info_parts Trym.info37
  go_enter Trym.func10, Trym.ntmps10
  go_wp2_with (at_make; refine wpList_make_full _ rfl _ _ 26 rfl (w.heap.size + 1) 37 i0 _ 6 Trym.underlying26 hi hz0 hz1 _ _ _ _ ss.length rfl rfl rfl rfl ?b1 ?b2 ?b3 ?_)
  case b1 => rw [hz2]; omega
  case b2 => unfold maxLen; omega
  case b3 => simp
  intro w1 hown hgrow
  have hz := (hown.lt _ rfl).2
  have htab := tab_made ss hown
  have hb1 : Below (w.heap.size + 1) (w.alloc (.cells #[.string ⟨#[]⟩, .slice none 0 0, .slice none 0 0] 28)) w1 := (Below.refl _ _).grown hgrow (by simp) (by simp)
  clear hi hz0 hz1 hz2 hown hgrow
  go_wp2
  go_loopw [6] (fun i wr => ∃ k : Nat, k ≤ ss.length ∧ i = .int .i64 k ∧ Tab wr (w.heap.size + 1) ss.length ss k ∧ w.heap.size + 1 < wr.heap.size ∧ Below (w.heap.size + 1) (w.alloc (.cells #[.string ⟨#[]⟩, .slice none 0 0, .slice none 0 0] 28)) wr) (fun i _ => ss.length - (intOf i).toNat)
  case atStart => exact ⟨0, Nat.zero_le _, rfl, htab, hz, hb1⟩
  case round =>
    obtain ⟨k, hk, rfl, ht, hz, hb⟩ := hrel
    clear htab hb1
    by_cases hlt : k < ss.length
    · have hck := hc k hlt
      have hbl := cell_lt hck
      have hck' : wr.cell? ⟨b, off + k, none⟩ = some (.string (ss.getD k ByteArray.empty)) := by
        rw [hb.cell (p := ⟨b, off + k, none⟩) (by simp at hbl ⊢; omega), World.cell?_of_block (w := w) (Below.heap_alloc _ _ _ hbl)]; exact hck
      have hstep := ht.step hlt
      have hb' := below_setCells hb (Nat.le_refl _) (colCells (ss.getD k ByteArray.empty)) (k * 6)
      obtain ⟨q0, q1, q2, q3, q4, q5⟩ := ht.1 k hlt
      rw [if_neg (by omega)] at q0
      have f0 := ht.2 (k * 6)
      have f1 := ht.2 (k * 6 + 1)
      have f2 := ht.2 (k * 6 + 2)
      have f3 := ht.2 (k * 6 + 3)
      have f4 := ht.2 (k * 6 + 4)
      have f5 := ht.2 (k * 6 + 5)
      clear hck hbl ht
      generalize hsk : ss.getD k ByteArray.empty = s at *
      clear hsk
      go_wp2
      go_roundw
      case rel => exact ⟨k + 1, by omega, by go_num, hstep, by simpa using hz, hb'⟩
      case measure => simp [intOf]; omega
    · obtain rfl : k = ss.length := by omega
      have r0 : wr.cell? ⟨w.heap.size, 0, none⟩ = some (.string ⟨#[]⟩) := by rw [hb.cell (p := ⟨w.heap.size, 0, none⟩) (by simp)]; simp
      have r1 : wr.cell? ⟨w.heap.size, 1, none⟩ = some (.slice none 0 0) := by rw [hb.cell (p := ⟨w.heap.size, 1, none⟩) (by simp)]; simp
      have r2 : wr.cell? ⟨w.heap.size, 2, none⟩ = some (.slice none 0 0) := by rw [hb.cell (p := ⟨w.heap.size, 2, none⟩) (by simp)]; simp
      have y0 : wr.frozen? ⟨w.heap.size, 0, none⟩ = false := by rw [hb.frozen (p := ⟨w.heap.size, 0, none⟩) (by simp)]; simp
      have y1 : wr.frozen? ⟨w.heap.size, 1, none⟩ = false := by rw [hb.frozen (p := ⟨w.heap.size, 1, none⟩) (by simp)]; simp
      have y2 : wr.frozen? ⟨w.heap.size, 2, none⟩ = false := by rw [hb.frozen (p := ⟨w.heap.size, 2, none⟩) (by simp)]; simp
      go_wp2
      refine bodyPost_ret (v := .agg #[.string t, .slice (some ⟨w.heap.size + 1, 0, none⟩) ss.length ss.length, .slice none 0 0]) (by simp [results, Trym.results10, go_sem, r0, r1, r2]) rfl ⟨rfl, ?_, ?_, ?_⟩
      · refine ht.of_block ?_
        rw [Below.heap_setCell _ _ _ _ (by simp), Below.heap_setCell _ _ _ _ (by simp), Below.heap_setCell _ _ _ _ (by simp)]
      · simpa using hz
      · exact (((((Below.refl _ _).alloc (Nat.le_refl _) _).trans (hb.mono (by omega))).setCell (Nat.le_refl _) _).setCell (Nat.le_refl _) _).setCell (Nat.le_refl _) _

/-- An empty list of names. -/
theorem table_empty (t : ByteArray) (a : Option Addr) (c : Nat) (w : World) :
    Calls Trym.prog 10 #[.string t, .slice a 0 c] w fun e w' => e = .returned (.agg #[.string t, .slice (some ⟨w.heap.size + 1, 0, none⟩) 0 0, .slice none 0 0]) ∧
       Tab w' (w.heap.size + 1) 0 [] 0 ∧ w.heap.size + 1 < w'.heap.size ∧ Below w.heap.size w w' := by
  obtain ⟨i0, hi, hz0, hz1, hz2⟩ := info_parts Trym.info37
  go_enter Trym.func10, Trym.ntmps10
  go_wp2_with (at_make; refine wpList_make_full _ rfl _ _ 26 rfl (w.heap.size + 1) 37 i0 _ 6 Trym.underlying26 hi hz0 hz1 _ _ _ _ 0 rfl rfl rfl rfl ?b1 ?b2 ?b3 ?_)
  case b1 => rw [hz2]; omega
  case b2 => unfold maxLen; omega
  case b3 => simp
  intro w1 hown hgrow
  have hz := (hown.lt _ rfl).2
  have ht : Tab w1 (w.heap.size + 1) 0 [] 0 := ⟨fun i hi => by omega, fun o => hown.frozenAt o⟩
  have hb : Below (w.heap.size + 1) (w.alloc (.cells #[.string ⟨#[]⟩, .slice none 0 0, .slice none 0 0] 28)) w1 := (Below.refl _ _).grown hgrow (by simp) (by simp)
  clear hi hz0 hz1 hz2 hown hgrow
  have r0 : w1.cell? ⟨w.heap.size, 0, none⟩ = some (.string ⟨#[]⟩) := by rw [hb.cell (p := ⟨w.heap.size, 0, none⟩) (by simp)]; simp
  have r1 : w1.cell? ⟨w.heap.size, 1, none⟩ = some (.slice none 0 0) := by rw [hb.cell (p := ⟨w.heap.size, 1, none⟩) (by simp)]; simp
  have r2 : w1.cell? ⟨w.heap.size, 2, none⟩ = some (.slice none 0 0) := by rw [hb.cell (p := ⟨w.heap.size, 2, none⟩) (by simp)]; simp
  have y0 : w1.frozen? ⟨w.heap.size, 0, none⟩ = false := by rw [hb.frozen (p := ⟨w.heap.size, 0, none⟩) (by simp)]; simp
  have y1 : w1.frozen? ⟨w.heap.size, 1, none⟩ = false := by rw [hb.frozen (p := ⟨w.heap.size, 1, none⟩) (by simp)]; simp
  have y2 : w1.frozen? ⟨w.heap.size, 2, none⟩ = false := by rw [hb.frozen (p := ⟨w.heap.size, 2, none⟩) (by simp)]; simp
  go_wp2
  go_loop [6] (fun i => i = .int .i64 0) (fun _ => 0)
  case atStart => rfl
  case round =>
    obtain rfl := hrel
    go_wp2
    refine bodyPost_ret (v := .agg #[.string t, .slice (some ⟨w.heap.size + 1, 0, none⟩) 0 0, .slice none 0 0]) (by simp [results, Trym.results10, go_sem, r0, r1, r2]) rfl ⟨rfl, ?_, ?_, ?_⟩
    · refine ht.of_block ?_
      rw [Below.heap_setCell _ _ _ _ (by simp), Below.heap_setCell _ _ _ _ (by simp), Below.heap_setCell _ _ _ _ (by simp)]
    · simpa using hz
    · exact (((((Below.refl _ _).alloc (Nat.le_refl _) _).trans (hb.mono (by omega))).setCell (Nat.le_refl _) _).setCell (Nat.le_refl _) _).setCell (Nat.le_refl _) _

/-- ZZMakeTable: a table whose columns bear the names, in order. -/
theorem table_any (t : ByteArray) (a : Option Addr) (n c : Nat) (ss : List ByteArray) (w : World) (h : Strs w a n ss) (hl : n ≤ 1048576) :
    Calls Trym.prog 10 #[.string t, .slice a n c] w fun e w' => e = .returned (.agg #[.string t, .slice (some ⟨w.heap.size + 1, 0, none⟩) n n, .slice none 0 0]) ∧
       Tab w' (w.heap.size + 1) n ss n ∧ w.heap.size + 1 < w'.heap.size ∧ Below w.heap.size w w' := by
  obtain ⟨rfl, h⟩ := h
  rcases h with rfl | ⟨b, off, rfl, hc⟩
  · exact table_empty t a c w
  · exact table_cons t b off c ss w hl hc

end Go.Proofs.Qxb6001841aMods
