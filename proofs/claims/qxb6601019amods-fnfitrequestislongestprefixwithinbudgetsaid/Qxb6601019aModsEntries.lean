/-
  zzBuildEntries: one entry a length, every command a prefix of one buffer.
-/
import Derived.Test.Qxb6601019aModsBase
namespace Go.Proofs.Qxb6601019aMods
open Go.RowKit

theorem Trym.info5 : (Trym.prog.info? 5).map (fun i => (i.zero, i.size, i.bytes)) = some (some (.int .u8 0), 1, 1) := by kernel_rfl
theorem Trym.info55 : (Trym.prog.info? 55).map (fun i => (i.zero, i.size, i.bytes)) = some (some (.agg #[.int .u64 0, .int .u64 0, .int .u8 0, .slice none 0 0]), 4, 48) := by kernel_rfl

/-- Entry i of the row at block g: whatever numbers, and a command of m bytes. -/
structure EntAt (w : World) (g i : Nat) (x y u : Int) (a : Option Addr) (m c : Nat) : Prop where
  c0 : w.cell? ⟨g, i * 4, none⟩ = some (.int .u64 x)
  c1 : w.cell? ⟨g, i * 4 + 1, none⟩ = some (.int .u64 y)
  c2 : w.cell? ⟨g, i * 4 + 2, none⟩ = some (.int .u8 u)
  c3 : w.cell? ⟨g, i * 4 + 3, none⟩ = some (.slice a m c)

theorem EntAt.of_block {w w' : World} {g i : Nat} {x y u : Int} {a : Option Addr} {m c : Nat} (h : EntAt w g i x y u a m c) (hb : w'.heap[g]? = w.heap[g]?) : EntAt w' g i x y u a m c := by
  have e : ∀ o, w'.cell? ⟨g, o, none⟩ = w.cell? ⟨g, o, none⟩ := fun o => World.cell?_of_block (w := w) hb
  exact ⟨(e _).trans h.c0, (e _).trans h.c1, (e _).trans h.c2, (e _).trans h.c3⟩

theorem EntAt.store {w : World} {g i k : Nat} {x y u : Int} {a : Option Addr} {m c : Nat} (h : EntAt w g i x y u a m c) (hk : i ≠ k) (v0 v1 v2 v3 : Value) : EntAt (w.setCells g (k * 4) [v0, v1, v2, v3]) g i x y u a m c := by
  have e : ∀ j, j < 4 → (w.setCells g (k * 4) [v0, v1, v2, v3]).cell? ⟨g, i * 4 + j, none⟩ = w.cell? ⟨g, i * 4 + j, none⟩ := fun j hj =>
    World.cell?_setCells_out g _ _ w _ (fun _ _ => by simp; omega)
  exact ⟨(e 0 (by omega)).trans h.c0, (e 1 (by omega)).trans h.c1, (e 2 (by omega)).trans h.c2, (e 3 (by omega)).trans h.c3⟩

theorem EntAt.stored {w : World} {g k : Nat} {x y u : Int} {a : Option Addr} {m c : Nat} (h : EntAt w g k x y u a m c) (x' y' u' : Int) (a' : Option Addr) (m' c' : Nat) : EntAt (w.setCells g (k * 4) [.int .u64 x', .int .u64 y', .int .u8 u', .slice a' m' c']) g k x' y' u' a' m' c' := by
  have hs : ∀ j, j < ([.int .u64 x', .int .u64 y', .int .u8 u', .slice a' m' c'] : List Value).length → (w.cell? ⟨g, k * 4 + j, none⟩).isSome = true := by
    intro j hj
    simp at hj
    match j, hj with
    | 0, _ => rw [Nat.add_zero, h.c0]; rfl
    | 1, _ => rw [h.c1]; rfl
    | 2, _ => rw [h.c2]; rfl
    | 3, _ => rw [h.c3]; rfl
  have e := fun j hj => World.cell?_setCells_in g [.int .u64 x', .int .u64 y', .int .u8 u', .slice a' m' c'] (k * 4) w hs j hj
  exact ⟨e 0 (by simp), e 1 (by simp), e 2 (by simp), e 3 (by simp)⟩

/-- The row behind k rounds: the first k entries bear commands of the lengths asked for. -/
def Ents (w : World) (g n : Nat) (zs : List Nat) (k : Nat) : Prop :=
  (∀ i, i < n → ∃ x y u a m c, EntAt w g i x y u a m c ∧ (i < k → m = zs.getD i 0)) ∧ ∀ o, w.frozen? ⟨g, o, none⟩ = false

theorem made_at (n i j : Nat) (h : i < n) (hj : j < 4) : (madeCells #[Value.int .u64 0, .int .u64 0, .int .u8 0, .slice none 0 0] (n * 4)).toList[i * 4 + j]? = [Value.int .u64 0, .int .u64 0, .int .u8 0, .slice none 0 0][j]? := by
  have h2 : i * 4 + j < n * 4 := by omega
  have h3 : (i * 4 + j) % 4 = j := by omega
  simp [madeCells, h2, h3]
  match j, hj with
  | 0, _ => rfl
  | 1, _ => rfl
  | 2, _ => rfl
  | 3, _ => rfl

theorem ents_made {w : World} {base g n : Nat} (zs : List Nat) (h : w.ownsRow base 55 4 (.slice (some ⟨g, 0, none⟩) n n) n (madeCells #[Value.int .u64 0, .int .u64 0, .int .u8 0, .slice none 0 0] (n * 4)).toList) : Ents w g n zs 0 := by
  refine ⟨fun i hi => ?_, fun o => h.frozenAt o⟩
  have e : ∀ j, j < 4 → w.cell? ⟨g, i * 4 + j, none⟩ = [Value.int .u64 0, .int .u64 0, .int .u8 0, .slice none 0 0][j]? := fun j hj => by rw [h.cellAt (i * 4 + j) (by omega), made_at n i j hi hj]
  exact ⟨0, 0, 0, none, 0, 0, ⟨e 0 (by omega), e 1 (by omega), e 2 (by omega), e 3 (by omega)⟩, fun h => by omega⟩

theorem Ents.step {w : World} {g n : Nat} {zs : List Nat} {k : Nat} (h : Ents w g n zs k) (hk : k < n) (x y u : Int) (a : Option Addr) {m : Nat} (c : Nat) (hm : m = zs.getD k 0) : Ents (w.setCells g (k * 4) [.int .u64 x, .int .u64 y, .int .u8 u, .slice a m c]) g n zs (k + 1) := by
  refine ⟨fun i hi => ?_, fun o => (World.frozen?_setCells g _ _ w _).trans (h.2 o)⟩
  obtain ⟨x0, y0, u0, a0, m0, c0, he, hl⟩ := h.1 i hi
  by_cases e : i = k
  · subst e
    exact ⟨x, y, u, a, m, c, he.stored _ _ _ _ _ _, fun _ => hm⟩
  · exact ⟨x0, y0, u0, a0, m0, c0, he.store e _ _ _ _, fun hi => hl (by omega)⟩

theorem Ents.of_block {w w' : World} {g n : Nat} {zs : List Nat} {k : Nat} (h : Ents w g n zs k) (hb : w'.heap[g]? = w.heap[g]?) : Ents w' g n zs k := by
  refine ⟨fun i hi => ?_, fun o => (World.frozen?_of_block (w := w) hb).trans (h.2 o)⟩
  obtain ⟨x0, y0, u0, a0, m0, c0, he, hl⟩ := h.1 i hi
  exact ⟨x0, y0, u0, a0, m0, c0, he.of_block hb, hl⟩

theorem below_setCells {B g : Nat} {a w : World} (h : Below B a w) (hg : B ≤ g) (vs : List Value) (o : Nat) : Below B a (w.setCells g o vs) := by
  induction vs generalizing w o with
  | nil => exact h
  | cons v r ih => exact ih (h.setCell (p := ⟨g, o, none⟩) hg v) (o + 1)

set_option maxHeartbeats 1000000 in
theorem entries12 (a0 : Option Addr) (n0 c0 : Nat) (zs : List Nat) (w : World) (h0 : Lens w a0 n0 zs) (hl : n0 ≤ 4096) (hb : Hid (∀ i, i < n0 → zs.getD i 0 ≤ 2097152)) :
    Calls Trym.prog 12 #[.slice a0 n0 c0] w fun e w' => ∃ g, e = .returned (.slice (some ⟨g, 0, none⟩) n0 n0) ∧ Ents w' g n0 zs n0 ∧ g < w'.heap.size ∧ Below w.heap.size w w' := by
  obtain ⟨i0, hi, hz0, hz1, hz2⟩ := info_parts Trym.info5
  obtain ⟨j0, hj, hy0, hy1, hy2⟩ := info_parts Trym.info55
  obtain ⟨N, hN1, hN2⟩ : ∃ N : Nat, N ≤ 2097152 ∧ 2097152 ≤ N := ⟨2097152, Nat.le_refl _, Nat.le_refl _⟩
  go_enter Trym.func12, Trym.ntmps12
  go_wp2_with (at_make; refine wpList_make_full _ rfl _ _ 52 rfl w.heap.size 5 i0 _ 1 Trym.underlying52 hi hz0 hz1 _ _ _ _ N rfl rfl (by omega) (by omega) ?b1 ?b2 ?b3 ?_)
  case b1 => rw [hz2]; omega
  case b2 => unfold maxLen; omega
  case b3 => exact Nat.le_refl _
  intro w1 hown hgrow
  have z1 := (hown.lt _ rfl).2
  have hb1 : Below w.heap.size w w1 := (Below.refl _ _).grown hgrow (Nat.le_refl _) (by simp)
  clear hi hz0 hz1 hz2 hown hgrow
  go_wp2_with (at_make; refine wpList_make_full _ rfl _ _ 25 rfl w.heap.size 55 j0 _ 4 Trym.underlying25 hj hy0 hy1 _ _ _ _ n0 rfl rfl rfl rfl ?d1 ?d2 ?d3 ?_)
  case d1 => omega
  case d2 => unfold maxLen; omega
  case d3 => omega
  intro w2 hown hgrow
  have z2 := (hown.lt _ rfl).2
  have htab := ents_made zs hown
  have hb2 : Below w.heap.size w w2 := hb1.grown hgrow (by omega) (by simp)
  have s1 := hb1.size
  clear hj hy0 hy1 hy2 hown hgrow hb1
  go_wp2
  go_loopw [5] (fun i wr => ∃ k : Nat, k ≤ n0 ∧ i = .int .i64 k ∧ Ents wr w1.heap.size n0 zs k ∧ w1.heap.size < wr.heap.size ∧ Below w.heap.size w wr) (fun i _ => n0 - (intOf i).toNat)
  case atStart => exact ⟨0, Nat.zero_le _, rfl, htab, z2, hb2⟩
  case round =>
    obtain ⟨k, hk, rfl, ht, hz, hbr⟩ := hrel
    clear htab hb2
    by_cases hlt : k < n0
    · obtain ⟨b0, f0, z, rfl, hzz, hc0⟩ := (h0.below hbr).at (k := k) (by omega)
      have hzb : z ≤ 2097152 := by rw [hzz.out]; exact hb.out k hlt
      obtain ⟨x1, y1, u1, a1, m1, d1, he, _⟩ := ht.1 k hlt
      obtain ⟨q0, q1, q2, q3⟩ := he
      have y0 := ht.2 (k * 4)
      have y1 := ht.2 (k * 4 + 1)
      have y2 := ht.2 (k * 4 + 2)
      have y3 := ht.2 (k * 4 + 3)
      have hstep := fun (x y u : Int) (a : Option Addr) (c : Nat) => ht.step hlt x y u a c hzz.out
      have HS : Hid (∀ (x y u : Int) (a : Option Addr) (c : Nat), Ents (wr.setCells w1.heap.size (k * 4) [.int .u64 x, .int .u64 y, .int .u8 u, .slice a z c]) w1.heap.size n0 zs (k + 1)) := hstep
      have HB : Hid (∀ (vs : List Value), Below w.heap.size w (wr.setCells w1.heap.size (k * 4) vs)) := fun vs => below_setCells hbr s1 vs _
      clear ht hstep h0
      go_wp2
      go_roundw
      case rel => exact ⟨k + 1, by omega, by go_num, HS.out _ _ _ _ _, by simpa using hz, HB.out [_, _, _, _]⟩
      case measure => simp [intOf]; omega
    · obtain rfl : k = n0 := by omega
      go_wp2
      go_ret
      exact ⟨_, rfl, ht, hz, hbr⟩

end Go.Proofs.Qxb6601019aMods
