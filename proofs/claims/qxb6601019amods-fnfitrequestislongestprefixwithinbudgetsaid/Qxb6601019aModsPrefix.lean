/-
  zzIsPrefix over one row; the walk of FnFitRequestIsLongestPrefixWithinBudget.
-/
import Derived.Test.Qxb6601019aModsFit
namespace Go.Proofs.Qxb6601019aMods
open Go.RowKit

set_option maxRecDepth 100000 in
set_option maxHeartbeats 1000000 in
/-- zzIsPrefix: a row's own prefix is one. -/
theorem prefix14 (g n k : Nat) (zs : List Nat) (w : World) (he : Ents w g n zs n) (hg : g < w.heap.size) (hl : n ≤ 4096) (hk : k ≤ n) :
    Calls Trym.prog 14 #[.slice (some ⟨g, 0, none⟩) k n, .slice (some ⟨g, 0, none⟩) n n, .int .i64 k] w fun e w' => e = .returned (.bool true) ∧ Below w.heap.size w w' := by
  go_enter Trym.func14, Trym.ntmps14
  go_wp2
  go_loopw [7] (fun i wr => ∃ j : Nat, j ≤ k ∧ i = .int .i64 j ∧ Below w.heap.size w wr) (fun i _ => k - (intOf i).toNat)
  case atStart => exact ⟨0, Nat.zero_le _, rfl, Below.refl _ _⟩
  case round =>
    obtain ⟨j, hj, rfl, hb⟩ := hrel
    by_cases hlt : j < k
    · obtain ⟨x, y, u, a, m, c, ⟨q0, q1, q2, q3⟩, _⟩ := (he.of_block (hb.block g hg)).1 j (by omega)
      have j1 : (j : Int) < (k : Int) := by omega
      have j2 : (j : Int) < (n : Int) := by omega
      clear he
      go_wp2
      go_quiet (fail)
      go_wp2
      go_roundw
      case rel => exact ⟨j + 1, by omega, by go_num, below_drewN hb _⟩
      case measure => simp [intOf]; omega
    · go_wp2
      go_ret
      exact ⟨rfl, hb⟩

set_option maxHeartbeats 1000000 in
theorem walk (a0 : Option Addr) (n0 c0 : Nat) (zs : List Nat) (w : World) (h0 : Lens w a0 n0 zs) :
    Calls Trym.prog 3 #[.slice a0 n0 c0] w fun e w' => e = .returned (.bool true) ∧ Below w.heap.size w w' := by
  have hn : Hid (n0 = zs.length) := h0.1
  go_enter Trym.func3, Trym.ntmps3
  go_wp2_with fail
  refine (zz9 a0 n0 c0 _).mono ?_
  rintro e wx ⟨rfl | ⟨rfl, u0⟩, rfl⟩
  · go_wp2
    go_ret
    exact ⟨rfl, Below.refl _ _⟩
  by_cases g0 : n0 ≤ 4096
  rotate_left
  · go_wp2_with fail
    go_ret
    exact ⟨rfl, Below.refl _ _⟩
  go_wp2_with fail
  refine (range10 a0 n0 c0 zs _ h0 g0).mono ?_
  rintro e wy ⟨rfl | ⟨rfl, hb⟩, rfl⟩
  · go_wp2_with fail
    go_ret
    exact ⟨rfl, Below.refl _ _⟩
  have hb : Hid (∀ i, i < n0 → zs.getD i 0 ≤ 2097152) := hb
  go_wp2_with fail
  refine (clone_any a0 n0 c0 zs _ h0 (by omega)).mono ?_
  rintro e w1 ⟨a1, c1, rfl, o1, hb1⟩
  have h1 := lens_of_owns o1
  clear o1
  go_wp2_with fail
  refine (entries12 a1 n0 c1 zs _ h1 g0 hb).mono ?_
  rintro e w2 ⟨g, rfl, he, hg, hb2⟩
  have h1 := h1.below hb2
  have hbw := hb1.trans (hb2.mono hb1.size)
  clear hb1 hb2
  go_wp2_with fail
  refine (fit13 g n0 zs _ hn he hg g0 hb).mono ?_
  rintro e w3 ⟨k, rfl, hf, hb3⟩
  have HF : Hid (Fits zs n0 k) := hf
  have h1 := h1.below hb3
  have he := he.of_block (hb3.block g hg)
  have hg := Nat.lt_of_lt_of_le hg hb3.size
  have hbw := hbw.trans (hb3.mono hbw.size)
  clear hb3 hf
  go_wp2_with fail
  refine (model15 a1 n0 c1 zs _ h1 g0 hb).mono ?_
  rintro e wz ⟨⟨j, rfl, hj⟩, rfl⟩
  obtain rfl : k = j := fits_eq hn.out HF.out hj
  have hk := hj.1
  clear hj
  go_wp2_with fail
  refine (prefix14 g n0 k zs _ he hg g0 hk).mono ?_
  rintro e w4 ⟨rfl, hb4⟩
  have hbw := hbw.trans (hb4.mono hbw.size)
  clear hb4
  go_wp2
  go_ret
  exact ⟨rfl, hbw⟩

end Go.Proofs.Qxb6601019aMods
