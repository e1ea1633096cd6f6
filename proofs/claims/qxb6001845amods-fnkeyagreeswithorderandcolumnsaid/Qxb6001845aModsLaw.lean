/-
  The walk of FnKeyAgreesWithOrderAndColumn.
-/
import Derived.Test.Qxb6001845aModsKey
import Derived.Lib.Builder
namespace Go.Proofs.Qxb6001845aMods
open Go.RowKit

/-- The byte bound: it only computes. -/
theorem zz8 (a0 : Option Addr) (n0 c0 : Nat) (a1 : Option Addr) (n1 c1 : Nat) (w : World) :
    Calls Trym.prog 8 #[.slice a0 n0 c0, .slice a1 n1 c1] w fun e w' => (e = .returned (.bool false) ∨ e = .returned (.bool true) ∧ n0 ≤ 1048576 ∧ n1 ≤ 1048576) ∧ w' = w := by
  go_enter Trym.func8, Trym.ntmps8
  go_wp2
  all_goals go_ret
  all_goals first | exact ⟨.inl rfl, rfl⟩ | exact ⟨.inr ⟨rfl, by omega, by omega⟩, rfl⟩

theorem Trym.some42 : (Trym.prog.info? 42).isSome = true := by kernel_rfl

/-- The shape of an owned row's value. -/
theorem owns_shape {w : World} {base : Nat} {e : TypeId} {v : Value} {n : Nat} {xs : List Value} (h : w.ownsRow base e 1 v n xs) : ∃ a c, v = .slice a n c := by
  rcases h.2 with ⟨rfl, h0⟩ | ⟨g, cap, cur, rfl, _⟩
  · exact ⟨none, 0, by rw [h0]⟩
  · exact ⟨_, _, rfl⟩

theorem owns_one {w : World} {base : Nat} {e : TypeId} {a : Option Addr} {c : Nat} {x : Value} (h : w.ownsRow base e 1 (.slice a 1 c) 1 [x]) : ∃ b, a = some ⟨b, 0, none⟩ ∧ w.cell? ⟨b, 0, none⟩ = some x := by
  have h' := h
  rcases h.2 with ⟨_, h0⟩ | ⟨g, cap, cur, hv, _⟩
  · simp at h0
  · simp at hv
    obtain ⟨rfl, rfl⟩ := hv
    exact ⟨g, rfl, by rw [h'.cellAt 0 (by omega)]; rfl⟩

set_option maxHeartbeats 1000000 in
theorem walk (a0 : Option Addr) (n0 c0 : Nat) (zs : List Int) (a1 : Option Addr) (n1 c1 : Nat) (ps : List Int) (w : World) (h0 : Ints w a0 n0 zs) (h1 : Ints w a1 n1 ps) :
    Calls Trym.prog 5 #[.slice a0 n0 c0, .slice a1 n1 c1] w fun e w' => e = .returned (.bool true) ∧ Below w.heap.size w w' := by
  go_enter Trym.func5, Trym.ntmps5
  go_wp2_with fail
  refine (zz8 a0 n0 c0 a1 n1 c1 _).mono ?_
  rintro e wx ⟨rfl | ⟨rfl, u0, u1⟩, rfl⟩
  · go_wp2
    go_ret
    exact ⟨rfl, Below.refl _ _⟩
  by_cases g : n0 ≤ 65536 ∧ n1 ≤ 65536 ∧ 8 * (n0 + n1) ≤ 1048576
  rotate_left
  · go_wp2_with fail
    all_goals (go_ret; exact ⟨rfl, Below.refl _ _⟩)
  obtain ⟨g0, g1, g2⟩ := g
  go_wp2_with fail
  refine (clone_any a0 n0 c0 zs _ h0 (by omega)).mono ?_
  rintro e w1 ⟨b0, e0, rfl, o0, hb1⟩
  have k0 := ints_of_owns o0
  have h1 := h1.below hb1
  clear o0
  go_wp2_with fail
  refine (clone_any a1 n1 c1 ps _ h1 (by omega)).mono ?_
  rintro e w2 ⟨b1, e1, rfl, o1, hb2⟩
  have k0 := k0.below hb2
  have k1 := ints_of_owns o1
  have hbw := hb1.trans (hb2.mono hb1.size)
  clear hb1 hb2 o1
  go_wp2_with fail
  refine (build_any b0 n0 e0 zs b1 n1 e1 ps _ k0 k1 g0 g1).mono ?_
  rintro e w3 ⟨kv, vv, xs, qs, rfl, ho, hcols, hq, hk, hb3⟩
  have hbw := hbw.trans (hb3.mono hbw.size)
  obtain ⟨m, hm, ka, kc, rfl⟩ : ∃ m, Hid (qs.length = m) ∧ ∃ a c, kv = .slice a m c := ⟨_, rfl, owns_shape hk⟩
  clear hb3
  go_wp2_with fail
  have hbA : Below w3.heap.size w3 (w3.alloc (.cells #[.string ⟨#[116]⟩, .slice (some ⟨w2.heap.size, 0, none⟩) n0 n0, .slice ka m kc, .bool false, .string ⟨#[]⟩] 35)) := (Below.refl _ _).alloc (Nat.le_refl _) _
  have hbw := hbw.trans (hbA.mono hbw.size)
  have t1 : (w3.alloc (.cells #[.string ⟨#[116]⟩, .slice (some ⟨w2.heap.size, 0, none⟩) n0 n0, .slice ka m kc, .bool false, .string ⟨#[]⟩] 35)).cell? ⟨w3.heap.size, 1, none⟩ = some (.slice (some ⟨w2.heap.size, 0, none⟩) n0 n0) := by simp
  have t2 : (w3.alloc (.cells #[.string ⟨#[116]⟩, .slice (some ⟨w2.heap.size, 0, none⟩) n0 n0, .slice ka m kc, .bool false, .string ⟨#[]⟩] 35)).cell? ⟨w3.heap.size, 2, none⟩ = some (.slice ka m kc) := by simp
  by_cases hq1 : m = 1
  rotate_left
  · refine (key_no w3.heap.size ka m kc _ t2 (by simp; omega)).mono ?_
    rintro e wx ⟨rfl, rfl⟩
    clear t1 t2
    go_wp2
    go_ret
    exact ⟨rfl, hbw⟩
  subst hq1
  obtain ⟨p, rfl⟩ := List.length_eq_one_iff.1 hm.out
  obtain ⟨kb, rfl, hkb⟩ := owns_one hk
  have hp : p < n0 := hq p (by simp)
  obtain ⟨bb, nm, x1, x2, x3, x4, x5⟩ := hcols p hp
  have hkb : w3.cell? ⟨kb, 0, none⟩ = some (.pointer (some ⟨bb, 0, none⟩)) := by rw [hkb]; simp [x1]
  have hkb' := (hbA.cell (p := ⟨kb, 0, none⟩) (cell_lt hkb)).trans hkb
  have col := x4.of_block (hbA.block bb x3)
  have hcols := hcols.kept hbA
  have ho := owns_below ho hbA
  have X1 : Hid (xs[p]? = some (.pointer (some ⟨bb, 0, none⟩))) := x1
  have X5 : Hid (val (nm.data.toList.drop 1) = p) := x5
  clear x1 x5 x4 hbA hk hq hkb hm
  by_cases hkd : (zs.getD p 0 == 0) = true
  rotate_left
  · have hkd' : (zs.getD p 0 == 0) = false := by simpa using hkd
    refine (key_other w3.heap.size kb kc bb _ _ t2 hkb' col.c1 hkd').mono ?_
    rintro e wx ⟨rfl, rfl⟩
    clear t1 t2 hkb' hkd hkd'
    go_wp2
    go_ret
    exact ⟨rfl, hbw⟩
  have hkd0 : zs.getD p 0 = 0 := by simpa using hkd
  rw [hkd0] at col
  have c0 := col.c0
  have c1 := col.c1
  clear hkd hkd0
  refine (key_yes w3.heap.size kb kc bb _ t2 hkb' c1).mono ?_
  rintro e wx ⟨rfl, rfl⟩
  go_wp2_with fail
  refine (order_key w3.heap.size kb kc _ t2).mono ?_
  rintro e wx ⟨rfl, rfl⟩
  obtain ⟨j42, hj42⟩ := Option.isSome_iff_exists.1 Trym.some42
  have hpp := fun (w : World) => Lib.run_neq_ptr_same (P := Trym.prog) w ⟨bb, 0, none⟩ Trym.underlying36 hj42
  clear hj42
  go_wp2_with fail
  refine (column_at w3.heap.size w2.heap.size w2.heap.size n0 p bb nm 0 zs xs _ t1 g0 ho hcols hp X1.out col X5).mono ?_
  rintro e wx ⟨rfl, rfl⟩
  clear t1 t2
  go_wp2
  go_ret
  exact ⟨rfl, hbw⟩

end Go.Proofs.Qxb6001845aMods
