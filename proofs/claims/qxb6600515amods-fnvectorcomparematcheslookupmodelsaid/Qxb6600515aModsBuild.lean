/-
  zzBuild_b1: a vector of counters.
-/
import Derived.Test.Qxb6600515aModsBase
import Derived.RegionTactic
namespace Go.Proofs.Qxb6600515aMods
open Go.RowKit

theorem Trym.info39 : (Trym.prog.info? 39).map (fun i => (i.zero, i.size, i.bytes)) = some (some (.agg #[.int .u64 0, .int .u64 0]), 2, 16) := by kernel_rfl

/-- Counter i of the row at block g. -/
structure CntAt (w : World) (g i : Nat) (x y : Int) : Prop where
  c0 : w.cell? ⟨g, i * 2, none⟩ = some (.int .u64 x)
  c1 : w.cell? ⟨g, i * 2 + 1, none⟩ = some (.int .u64 y)

theorem CntAt.of_block {w w' : World} {g i : Nat} {x y : Int} (h : CntAt w g i x y) (hb : w'.heap[g]? = w.heap[g]?) : CntAt w' g i x y :=
  ⟨(World.cell?_of_block (w := w) hb).trans h.c0, (World.cell?_of_block (w := w) hb).trans h.c1⟩

theorem CntAt.store {w : World} {g i k : Nat} {x y s t : Int} (h : CntAt w g i x y) (hk : i ≠ k) : CntAt (w.setCells g (k * 2) [.int .u64 s, .int .u64 t]) g i x y := by
  have e : ∀ j, j < 2 → (w.setCells g (k * 2) [.int .u64 s, .int .u64 t]).cell? ⟨g, i * 2 + j, none⟩ = w.cell? ⟨g, i * 2 + j, none⟩ := fun j hj =>
    World.cell?_setCells_out g _ _ w _ (fun _ _ => by simp; omega)
  exact ⟨(e 0 (by omega)).trans h.c0, (e 1 (by omega)).trans h.c1⟩

theorem CntAt.stored {w : World} {g k : Nat} {x y s t : Int} (h : CntAt w g k x y) : CntAt (w.setCells g (k * 2) [.int .u64 s, .int .u64 t]) g k s t := by
  have hs : ∀ j, j < ([.int .u64 s, .int .u64 t] : List Value).length → (w.cell? ⟨g, k * 2 + j, none⟩).isSome = true := by
    intro j hj
    simp at hj
    match j, hj with
    | 0, _ => rw [Nat.add_zero, h.c0]; rfl
    | 1, _ => rw [h.c1]; rfl
  have e := fun j hj => World.cell?_setCells_in g [.int .u64 s, .int .u64 t] (k * 2) w hs j hj
  exact ⟨e 0 (by simp), e 1 (by simp)⟩

/-- The row behind k rounds. -/
def Cnt (w : World) (g n : Nat) (I A : List Int) (k : Nat) : Prop :=
  (∀ i, i < n → CntAt w g i (if i < k then I.getD i 0 else 0) (if i < k then A.getD i 0 else 0)) ∧ ∀ o, w.frozen? ⟨g, o, none⟩ = false

theorem made_at (n i j : Nat) (h : i < n) (hj : j < 2) : (madeCells #[Value.int .u64 0, .int .u64 0] (n * 2)).toList[i * 2 + j]? = some (.int .u64 0) := by
  have h2 : i * 2 + j < n * 2 := by omega
  have h3 : (i * 2 + j) % 2 = j := by omega
  simp [madeCells, h2, h3]
  match j, hj with
  | 0, _ => rfl
  | 1, _ => rfl

theorem cnt_made {w : World} {base g n : Nat} (I A : List Int) (h : w.ownsRow base 39 2 (.slice (some ⟨g, 0, none⟩) n n) n (madeCells #[Value.int .u64 0, .int .u64 0] (n * 2)).toList) : Cnt w g n I A 0 := by
  refine ⟨fun i hi => ?_, fun o => h.frozenAt o⟩
  rw [if_neg (by omega), if_neg (by omega)]
  have e : ∀ j, j < 2 → w.cell? ⟨g, i * 2 + j, none⟩ = some (.int .u64 0) := fun j hj => by rw [h.cellAt (i * 2 + j) (by omega), made_at n i j hi hj]
  exact ⟨e 0 (by omega), e 1 (by omega)⟩

theorem Cnt.step {w : World} {g n : Nat} {I A : List Int} {k : Nat} (h : Cnt w g n I A k) (hk : k < n) {x y : Int} (hx : x = I.getD k 0) (hy : y = A.getD k 0) : Cnt (w.setCells g (k * 2) [.int .u64 x, .int .u64 y]) g n I A (k + 1) := by
  refine ⟨fun i hi => ?_, fun o => (World.frozen?_setCells g _ _ w _).trans (h.2 o)⟩
  by_cases e : i = k
  · subst e
    rw [if_pos (by omega), if_pos (by omega), ← hx, ← hy]
    exact (h.1 i hi).stored
  · have := (h.1 i hi).store (s := x) (t := y) e
    by_cases e2 : i < k
    · rw [if_pos e2, if_pos e2] at this; rw [if_pos (by omega), if_pos (by omega)]; exact this
    · rw [if_neg e2, if_neg e2] at this; rw [if_neg (by omega), if_neg (by omega)]; exact this

theorem Cnt.of_block {w w' : World} {g n : Nat} {I A : List Int} {k : Nat} (h : Cnt w g n I A k) (hb : w'.heap[g]? = w.heap[g]?) : Cnt w' g n I A k :=
  ⟨fun i hi => (h.1 i hi).of_block hb, fun o => (World.frozen?_of_block (w := w) hb).trans (h.2 o)⟩

theorem below_setCells {B g : Nat} {a w : World} (h : Below B a w) (hg : B ≤ g) (vs : List Value) (o : Nat) : Below B a (w.setCells g o vs) := by
  induction vs generalizing w o with
  | nil => exact h
  | cons v r ih => exact ih (h.setCell (p := ⟨g, o, none⟩) hg v) (o + 1)

set_option maxHeartbeats 1000000 in
theorem build10 (a0 : Option Addr) (n0 c0 : Nat) (I : List Int) (a1 : Option Addr) (n1 c1 : Nat) (A : List Int) (m : Nat) (w : World) (h0 : Ints w a0 n0 I) (h1 : Ints w a1 n1 A) (m0 : m ≤ n0) (m1 : m ≤ n1) (hl : m ≤ 65536) :
    Calls Trym.prog 10 #[.slice a0 n0 c0, .slice a1 n1 c1, .int .i64 m] w fun e w' => e = .returned (.agg #[.slice (some ⟨w.heap.size + 1, 0, none⟩) m m]) ∧
       Cnt w' (w.heap.size + 1) m I A m ∧ w.heap.size + 1 < w'.heap.size ∧ Below w.heap.size w w' := by
  obtain ⟨i0, hi, hz0, hz1, hz2⟩ := info_parts Trym.info39
  go_enter Trym.func10, Trym.ntmps10
  go_wp2_with (at_make; refine wpList_make_full _ rfl _ _ 27 rfl (w.heap.size + 1) 39 i0 _ 2 Trym.underlying27 hi hz0 hz1 _ _ _ _ m rfl rfl rfl rfl ?b1 ?b2 ?b3 ?_)
  case b1 => rw [hz2]; omega
  case b2 => unfold maxLen; omega
  case b3 => simp
  intro w1 hown hgrow
  have hz := (hown.lt _ rfl).2
  have htab := cnt_made I A hown
  have hb1 : Below (w.heap.size + 1) (w.alloc (.cells #[.slice none 0 0] 29)) w1 := (Below.refl _ _).grown hgrow (by simp) (by simp)
  clear hi hz0 hz1 hz2 hown hgrow
  go_wp2
  go_loopw [8] (fun i wr => ∃ k : Nat, k ≤ m ∧ i = .int .i64 k ∧ Cnt wr (w.heap.size + 1) m I A k ∧ w.heap.size + 1 < wr.heap.size ∧ Below (w.heap.size + 1) (w.alloc (.cells #[.slice none 0 0] 29)) wr) (fun i _ => m - (intOf i).toNat)
  case atStart => exact ⟨0, Nat.zero_le _, rfl, htab, hz, hb1⟩
  case round =>
    obtain ⟨k, hk, rfl, ht, hz, hb⟩ := hrel
    clear htab hb1
    have HB : Below w.heap.size w wr := ((Below.refl _ _).alloc (Nat.le_refl _) _).trans (hb.mono (by omega))
    by_cases hlt : k < m
    · obtain ⟨b0, f0, x, rfl, hx, hc0⟩ := (h0.below HB).at (k := k) (by omega)
      obtain ⟨b1, f1, y, rfl, hy, hc1⟩ := (h1.below HB).at (k := k) (by omega)
      have hstep := ht.step hlt hx.out hy.out
      have hb' := below_setCells hb (Nat.le_refl _) [.int .u64 x, .int .u64 y] (k * 2)
      obtain ⟨q0, q1⟩ := ht.1 k hlt
      have y0 := ht.2 (k * 2)
      have y1 := ht.2 (k * 2 + 1)
      have j0 : (k : Int) < (n0 : Int) := by omega
      have j1 : (k : Int) < (n1 : Int) := by omega
      have j2 : (k : Int) < (m : Int) := by omega
      clear ht h0 h1 HB
      go_wp2
      go_region
      go_wp2
      go_roundw
      case rel => exact ⟨k + 1, by omega, by go_num, hstep.of_block rfl, by simpa using hz, Below.drew hb'⟩
      case measure => simp [intOf]; omega
    · obtain rfl : k = m := by omega
      have r0 : wr.cell? ⟨w.heap.size, 0, none⟩ = some (.slice none 0 0) := by rw [hb.cell (p := ⟨w.heap.size, 0, none⟩) (by simp)]; simp
      have y0 : wr.frozen? ⟨w.heap.size, 0, none⟩ = false := by rw [hb.frozen (p := ⟨w.heap.size, 0, none⟩) (by simp)]; simp
      go_wp2
      refine bodyPost_ret (v := .agg #[.slice (some ⟨w.heap.size + 1, 0, none⟩) k k]) (by simp [results, Trym.results10, go_sem, r0]) rfl ⟨rfl, ?_, ?_, ?_⟩
      · refine ht.of_block ?_
        rw [Below.heap_setCell _ _ _ _ (by simp)]
      · simpa using hz
      · exact HB.setCell (Nat.le_refl _) _

end Go.Proofs.Qxb6600515aMods
