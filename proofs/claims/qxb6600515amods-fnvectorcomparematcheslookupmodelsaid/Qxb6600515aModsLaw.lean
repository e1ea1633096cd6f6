/-
  The walk of FnVectorCompareMatchesLookupModel.
-/
import Derived.Test.Qxb6600515aModsCompare
import Derived.Test.Qxb6600515aModsModel
namespace Go.Proofs.Qxb6600515aMods
open Go.RowKit

set_option maxRecDepth 100000 in
set_option maxHeartbeats 1000000 in
theorem walk (a0 : Option Addr) (n0 c0 : Nat) (I : List Int) (a1 : Option Addr) (n1 c1 : Nat) (A : List Int) (a2 : Option Addr) (n2 c2 : Nat) (J : List Int) (a3 : Option Addr) (n3 c3 : Nat) (B : List Int) (w : World)
    (h0 : Ints w a0 n0 I) (h1 : Ints w a1 n1 A) (h2 : Ints w a2 n2 J) (h3 : Ints w a3 n3 B) :
    Calls Trym.prog 3 #[.slice a0 n0 c0, .slice a1 n1 c1, .slice a2 n2 c2, .slice a3 n3 c3] w fun e w' => e = .returned (.bool true) ∧ Below w.heap.size w w' := by
  go_enter Trym.func3, Trym.ntmps3
  go_wp2_with fail
  refine (zz6 a0 n0 c0 a1 n1 c1 a2 n2 c2 a3 n3 c3 _).mono ?_
  rintro e wx ⟨rfl | ⟨rfl, u0, u1, u2, u3⟩, rfl⟩
  · go_wp2
    go_ret
    exact ⟨rfl, Below.refl _ _⟩
  by_cases g : n0 ≤ 65536 ∧ n1 ≤ 65536 ∧ n2 ≤ 65536 ∧ n3 ≤ 65536 ∧ (n0 + n1 + n2 + n3) * 8 ≤ 1048576
  rotate_left
  · go_wp2_with fail
    all_goals (go_ret; exact ⟨rfl, Below.refl _ _⟩)
  obtain ⟨g0, g1, g2, g3, g4⟩ := g
  go_wp2_with fail
  refine (min7 n0 n1 _).mono ?_
  rintro e wy ⟨rfl, rfl⟩
  obtain ⟨nv, hnv⟩ : ∃ nv, nv = min n0 n1 := ⟨_, rfl⟩
  rw [← hnv]
  have HV : Hid (nv = min n0 n1) := hnv
  have lv0 : nv ≤ n0 := by omega
  have lv1 : nv ≤ n1 := by omega
  clear hnv
  go_wp2_with fail
  refine (min7 n2 n3 _).mono ?_
  rintro e wz ⟨rfl, rfl⟩
  obtain ⟨nw, hnw⟩ : ∃ nw, nw = min n2 n3 := ⟨_, rfl⟩
  rw [← hnw]
  have HW : Hid (nw = min n2 n3) := hnw
  have lw2 : nw ≤ n2 := by omega
  have lw3 : nw ≤ n3 := by omega
  clear hnw
  go_wp2_with fail
  refine (inc8 a0 n0 c0 I nv _ h0 lv0 g0).mono ?_
  rintro e w1 ⟨rfl | ⟨rfl, iv⟩, hb1⟩
  · go_wp2_with fail
    go_ret
    exact ⟨rfl, hb1⟩
  have iv : Hid (∀ i, 1 ≤ i → i < nv → I.getD (i - 1) 0 < I.getD i 0) := iv
  have h0 := h0.below hb1
  have h1 := h1.below hb1
  have h2 := h2.below hb1
  have h3 := h3.below hb1
  go_wp2_with fail
  refine (inc8 a2 n2 c2 J nw _ h2 lw2 g2).mono ?_
  rintro e w2 ⟨rfl | ⟨rfl, iw⟩, hb2⟩
  · have hbw := hb1.trans (hb2.mono hb1.size)
    go_wp2_with fail
    go_ret
    exact ⟨rfl, hbw⟩
  have iw : Hid (∀ i, 1 ≤ i → i < nw → J.getD (i - 1) 0 < J.getD i 0) := iw
  have h0 := h0.below hb2
  have h1 := h1.below hb2
  have h2 := h2.below hb2
  have h3 := h3.below hb2
  have hbw := hb1.trans (hb2.mono hb1.size)
  clear hb1 hb2
  go_wp2_with fail
  refine (clone_any a0 n0 c0 I _ h0 (by omega)).mono ?_
  rintro e w3 ⟨d0, e0, rfl, o0, hb3⟩
  have h0 := ints_of_owns o0
  have h1 := h1.below hb3
  have h2 := h2.below hb3
  have h3 := h3.below hb3
  have hbw := hbw.trans (hb3.mono hbw.size)
  clear hb3 o0
  go_wp2_with fail
  refine (clone_any a1 n1 c1 A _ h1 (by omega)).mono ?_
  rintro e w4 ⟨d1, e1, rfl, o1, hb4⟩
  have h0 := h0.below hb4
  have h1 := ints_of_owns o1
  have h2 := h2.below hb4
  have h3 := h3.below hb4
  have hbw := hbw.trans (hb4.mono hbw.size)
  clear hb4 o1
  go_wp2_with fail
  refine (clone_any a2 n2 c2 J _ h2 (by omega)).mono ?_
  rintro e w5 ⟨d2, e2, rfl, o2, hb5⟩
  have h0 := h0.below hb5
  have h1 := h1.below hb5
  have h2 := ints_of_owns o2
  have h3 := h3.below hb5
  have hbw := hbw.trans (hb5.mono hbw.size)
  clear hb5 o2
  go_wp2_with fail
  refine (clone_any a3 n3 c3 B _ h3 (by omega)).mono ?_
  rintro e w6 ⟨d3, e3, rfl, o3, hb6⟩
  have h0 := h0.below hb6
  have h1 := h1.below hb6
  have h2 := h2.below hb6
  have h3 := ints_of_owns o3
  have hbw := hbw.trans (hb6.mono hbw.size)
  clear hb6 o3
  have PV : Hid ((pairs I A).length = nv) := by show _ = _; rw [pairs_length, HV.out, h0.1, h1.1]
  have PW : Hid ((pairs J B).length = nw) := by show _ = _; rw [pairs_length, HW.out, h2.1, h3.1]
  have IV : Hid (Inc (pairs I A)) := Inc.pairs (by rw [← pairs_length, PV.out]; exact iv.out)
  have IW : Hid (Inc (pairs J B)) := Inc.pairs (by rw [← pairs_length, PW.out]; exact iw.out)
  go_wp2_with fail
  refine (build10 d0 n0 e0 I d1 n1 e1 A nv _ h0 h1 lv0 lv1 (by omega)).mono ?_
  rintro e w7 ⟨rfl, hv, z7, hb7⟩
  have hb8 : Below w6.heap.size w6 (w7.alloc (.cells #[.slice (some ⟨w6.heap.size + 1, 0, none⟩) nv nv] 29)) := hb7.alloc (by omega) _
  have hv := hv.of_block (Below.heap_alloc w7 (.cells #[.slice (some ⟨w6.heap.size + 1, 0, none⟩) nv nv] 29) _ z7)
  have h0 := h0.below hb8
  have h1 := h1.below hb8
  have h2 := h2.below hb8
  have h3 := h3.below hb8
  have hbw := hbw.trans (hb8.mono hbw.size)
  have s67 := hb7.size
  clear hb7 hb8
  go_wp2_with fail
  refine (build10 d2 n2 e2 J d3 n3 e3 B nw _ h2 h3 lw2 lw3 (by omega)).mono ?_
  rintro e w9 ⟨rfl, hw, z9, hb9⟩
  simp only [World.size_alloc] at hw z9
  have hw : Cnt w9 (w7.heap.size + 2) nw J B nw := hw
  have z9 : w7.heap.size + 2 < w9.heap.size := z9
  have q0 : w9.cell? ⟨w7.heap.size, 0, none⟩ = some (.slice (some ⟨w6.heap.size + 1, 0, none⟩) nv nv) := by rw [hb9.cell (p := ⟨w7.heap.size, 0, none⟩) (by simp)]; simp
  have hv := hv.of_block (hb9.block (w6.heap.size + 1) (by simp; omega))
  have hb9' : Below (w7.alloc (.cells #[.slice (some ⟨w6.heap.size + 1, 0, none⟩) nv nv] 29)).heap.size (w7.alloc (.cells #[.slice (some ⟨w6.heap.size + 1, 0, none⟩) nv nv] 29)) (w9.alloc (.cells #[.slice (some ⟨w7.heap.size + 2, 0, none⟩) nw nw] 29)) := hb9.alloc hb9.size _
  have h0 := h0.below hb9'
  have h1 := h1.below hb9'
  have h2 := h2.below hb9'
  have h3 := h3.below hb9'
  have hbw := hbw.trans (hb9'.mono hbw.size)
  have hv := hv.of_block (Below.heap_alloc w9 (.cells #[.slice (some ⟨w7.heap.size + 2, 0, none⟩) nw nw] 29) _ (by omega))
  have hw := hw.of_block (Below.heap_alloc w9 (.cells #[.slice (some ⟨w7.heap.size + 2, 0, none⟩) nw nw] 29) _ z9)
  have q9 : w7.heap.size < w9.heap.size := by omega
  clear hb9 hb9'
  go_wp2_with fail
  refine (compare11 (w6.heap.size + 1) nv (w7.heap.size + 2) nw I A J B _ hv hw (by omega) (by omega) (by simp; omega) (by simp; omega) PV PW IV IW).mono ?_
  rintro e w11 ⟨rfl, hb11⟩
  have h0 := h0.below hb11
  have h1 := h1.below hb11
  have h2 := h2.below hb11
  have h3 := h3.below hb11
  have hbw := hbw.trans (hb11.mono hbw.size)
  clear hb11 hv hw
  go_wp2_with fail
  refine (model12 d0 n0 e0 I d1 n1 e1 A nv d2 n2 e2 J d3 n3 e3 B nw _ h0 h1 h2 h3 HV.out HW.out g0 g2 iv iw).mono ?_
  rintro e wu ⟨rfl, rfl⟩
  generalize code (gM (pairs I A) (pairs J B)) (lM (pairs I A) (pairs J B)) = r
  go_wp2
  go_ret
  exact ⟨rfl, hbw⟩

end Go.Proofs.Qxb6600515aMods
