/-
  zzModelCompare_b1: the model's answer.
-/
import Derived.Test.Qxb6600515aModsBase
namespace Go.Proofs.Qxb6600515aMods
open Go.RowKit

theorem any_take_succ {V : List (Int × Int)} {k : Nat} (f : Int × Int → Bool) (hk : k < V.length) : (V.take (k + 1)).any f = ((V.take k).any f || f V[k]) := by
  rw [List.take_succ_eq_append_getElem hk, List.any_append]
  simp

/-- One device more: the flag behind a round. -/
theorem flag_step {I A : List Int} {k n : Nat} (hn : (pairs I A).length = n) (hk : k < n) {x y : Int} (hx : x = I.getD k 0) (hy : y = A.getD k 0) (f : Int × Int → Bool) {g : Bool} (hg : g = ((pairs I A).take k).any f) :
    (g || f (x, y)) = ((pairs I A).take (k + 1)).any f := by
  rw [any_take_succ f (by omega), hg, pairs_at, hx, hy]

/-- The flags behind the first loop's round, and behind the second's. -/
theorem flags1 {I A : List Int} {W : List (Int × Int)} {k n : Nat} (hn : (pairs I A).length = n) (hk : k < n) {x y q : Int} (hx : x = I.getD k 0) (hy : y = A.getD k 0) (hq : q = lk W x) {gb lb : Bool}
    (hg : gb = ((pairs I A).take k).any (fun p => decide (lk W p.1 < p.2))) (hl : lb = ((pairs I A).take k).any (fun p => decide (p.2 < lk W p.1))) :
    (gb || decide (q < y)) = ((pairs I A).take (k + 1)).any (fun p => decide (lk W p.1 < p.2)) ∧ (lb || decide (y < q)) = ((pairs I A).take (k + 1)).any (fun p => decide (p.2 < lk W p.1)) := by
  subst hq
  exact ⟨flag_step hn hk hx hy (fun p => decide (lk W p.1 < p.2)) hg, flag_step hn hk hx hy (fun p => decide (p.2 < lk W p.1)) hl⟩

theorem flags2 {J B : List Int} {V : List (Int × Int)} {k n : Nat} (hn : (pairs J B).length = n) (hk : k < n) {x y q : Int} (hx : x = J.getD k 0) (hy : y = B.getD k 0) (hq : q = lk V x) {g0 l0 gb lb : Bool}
    (hg : gb = (g0 || ((pairs J B).take k).any (fun p => decide (p.2 < lk V p.1)))) (hl : lb = (l0 || ((pairs J B).take k).any (fun p => decide (lk V p.1 < p.2)))) :
    (gb || decide (y < q)) = (g0 || ((pairs J B).take (k + 1)).any (fun p => decide (p.2 < lk V p.1))) ∧ (lb || decide (q < y)) = (l0 || ((pairs J B).take (k + 1)).any (fun p => decide (lk V p.1 < p.2))) := by
  subst hq
  rw [← flag_step hn hk hx hy (fun p => decide (p.2 < lk V p.1)) rfl, ← flag_step hn hk hx hy (fun p => decide (lk V p.1 < p.2)) rfl, hg, hl, Bool.or_assoc, Bool.or_assoc]
  exact ⟨rfl, rfl⟩

set_option maxHeartbeats 1000000 in
theorem model12 (a0 : Option Addr) (n0 c0 : Nat) (I : List Int) (a1 : Option Addr) (n1 c1 : Nat) (A : List Int) (nv : Nat) (a2 : Option Addr) (n2 c2 : Nat) (J : List Int) (a3 : Option Addr) (n3 c3 : Nat) (B : List Int) (nw : Nat) (w : World)
    (h0 : Ints w a0 n0 I) (h1 : Ints w a1 n1 A) (h2 : Ints w a2 n2 J) (h3 : Ints w a3 n3 B) (hv : nv = min n0 n1) (hw : nw = min n2 n3) (l0 : n0 ≤ 65536) (l2 : n2 ≤ 65536)
    (iv : Hid (∀ i, 1 ≤ i → i < nv → I.getD (i - 1) 0 < I.getD i 0)) (iw : Hid (∀ i, 1 ≤ i → i < nw → J.getD (i - 1) 0 < J.getD i 0)) :
    Calls Trym.prog 12 #[.slice a0 n0 c0, .slice a1 n1 c1, .int .i64 nv, .slice a2 n2 c2, .slice a3 n3 c3, .int .i64 nw] w fun e w' => e = .returned (.int .i64 (code (gM (pairs I A) (pairs J B)) (lM (pairs I A) (pairs J B)))) ∧ w' = w := by
  have lv : nv ≤ n0 ∧ nv ≤ n1 := by omega
  have lw : nw ≤ n2 ∧ nw ≤ n3 := by omega
  have HV : Hid (nv = min n0 n1) := hv
  have HW : Hid (nw = min n2 n3) := hw
  have PV : Hid ((pairs I A).length = nv) := by show _ = _; rw [pairs_length, hv, h0.1, h1.1]
  have PW : Hid ((pairs J B).length = nw) := by show _ = _; rw [pairs_length, hw, h2.1, h3.1]
  clear hv hw
  obtain ⟨lv0, lv1⟩ := lv
  obtain ⟨lw2, lw3⟩ := lw
  go_enter Trym.func12, Trym.ntmps12
  go_wp2
  go_loop [13, 14, 15] (fun g l i => ∃ (k : Nat) (gb lb : Bool), k ≤ nv ∧ i = .int .i64 k ∧ g = .bool gb ∧ l = .bool lb ∧ gb = ((pairs I A).take k).any (fun p => decide (lk (pairs J B) p.1 < p.2)) ∧ lb = ((pairs I A).take k).any (fun p => decide (p.2 < lk (pairs J B) p.1))) (fun _ _ i => nv - (intOf i).toNat)
  case atStart => exact ⟨0, false, false, Nat.zero_le _, rfl, rfl, rfl, rfl, rfl⟩
  case round =>
    obtain ⟨k, gb, lb, hk, rfl, rfl, rfl, hg, hl⟩ := hrel
    have HG : Hid (gb = ((pairs I A).take k).any (fun p => decide (lk (pairs J B) p.1 < p.2))) := hg
    have HL : Hid (lb = ((pairs I A).take k).any (fun p => decide (p.2 < lk (pairs J B) p.1))) := hl
    clear hg hl
    by_cases hlt : k < nv
    · obtain ⟨b0, f0, x, rfl, hx, hc0⟩ := h0.at (k := k) (by omega)
      obtain ⟨b1, f1, y, rfl, hy, hc1⟩ := h1.at (k := k) (by omega)
      have HK : Hid (k < nv) := hlt
      go_wp2_with fail
      refine (look18 a2 n2 c2 J a3 n3 c3 B nw x _ h2 h3 HW.out l2 iw).mono ?_
      rintro e wx ⟨rfl, rfl⟩
      obtain ⟨q, hq⟩ : ∃ q, q = lk (pairs J B) x := ⟨_, rfl⟩
      have F := flags1 PV.out HK.out hx.out hy.out hq HG.out HL.out
      rw [← hq]
      have HF : Hid ((gb || decide (q < y)) = ((pairs I A).take (k + 1)).any (fun p => decide (lk (pairs J B) p.1 < p.2)) ∧ (lb || decide (y < q)) = ((pairs I A).take (k + 1)).any (fun p => decide (p.2 < lk (pairs J B) p.1))) := F
      clear F hq HG HL
      go_wp2
      · have t : q < y := by assumption
        go_round
        case rel => exact ⟨k + 1, true, lb, by omega, by go_num, rfl, rfl, by rw [← HF.out.1, decide_eq_true t, Bool.or_true], by rw [← HF.out.2, decide_eq_false (by omega), Bool.or_false]⟩
        case measure => simp [intOf]; omega
      · have t : y < q := by assumption
        go_round
        case rel => exact ⟨k + 1, gb, true, by omega, by go_num, rfl, rfl, by rw [← HF.out.1, decide_eq_false (by omega), Bool.or_false], by rw [← HF.out.2, decide_eq_true t, Bool.or_true]⟩
        case measure => simp [intOf]; omega
      · have t : y ≤ q := by assumption
        have t' : q ≤ y := by assumption
        go_round
        case rel => exact ⟨k + 1, gb, lb, by omega, by go_num, rfl, rfl, by rw [← HF.out.1, decide_eq_false (by omega), Bool.or_false], by rw [← HF.out.2, decide_eq_false (by omega), Bool.or_false]⟩
        case measure => simp [intOf]; omega
    · have HG0 : Hid (gb = (pairs I A).any (fun p => decide (lk (pairs J B) p.1 < p.2))) := by
        have := HG.out
        rwa [List.take_of_length_le (by rw [PV.out]; omega)] at this
      have HL0 : Hid (lb = (pairs I A).any (fun p => decide (p.2 < lk (pairs J B) p.1))) := by
        have := HL.out
        rwa [List.take_of_length_le (by rw [PV.out]; omega)] at this
      clear HG HL
      go_wp2
      go_loop [13, 14, 18] (fun g l i => ∃ (k : Nat) (g1 l1 : Bool), k ≤ nw ∧ i = .int .i64 k ∧ g = .bool g1 ∧ l = .bool l1 ∧ g1 = (gb || ((pairs J B).take k).any (fun p => decide (p.2 < lk (pairs I A) p.1))) ∧ l1 = (lb || ((pairs J B).take k).any (fun p => decide (lk (pairs I A) p.1 < p.2)))) (fun _ _ i => nw - (intOf i).toNat)
      case atStart => exact ⟨0, gb, lb, Nat.zero_le _, rfl, rfl, rfl, by simp, by simp⟩
      case round =>
        obtain ⟨k2, g1, l1, hk2, rfl, rfl, rfl, hg, hl⟩ := hrel
        have HG : Hid (g1 = (gb || ((pairs J B).take k2).any (fun p => decide (p.2 < lk (pairs I A) p.1)))) := hg
        have HL : Hid (l1 = (lb || ((pairs J B).take k2).any (fun p => decide (lk (pairs I A) p.1 < p.2)))) := hl
        clear hg hl
        by_cases hlt2 : k2 < nw
        · obtain ⟨b2, f2, x, rfl, hx, hc2⟩ := h2.at (k := k2) (by omega)
          obtain ⟨b3, f3, y, rfl, hy, hc3⟩ := h3.at (k := k2) (by omega)
          have HK : Hid (k2 < nw) := hlt2
          go_wp2_with fail
          refine (look18 a0 n0 c0 I a1 n1 c1 A nv x _ h0 h1 HV.out l0 iv).mono ?_
          rintro e wx ⟨rfl, rfl⟩
          obtain ⟨q, hq⟩ : ∃ q, q = lk (pairs I A) x := ⟨_, rfl⟩
          have F := flags2 PW.out HK.out hx.out hy.out hq HG.out HL.out
          rw [← hq]
          have HF : Hid ((g1 || decide (y < q)) = (gb || ((pairs J B).take (k2 + 1)).any (fun p => decide (p.2 < lk (pairs I A) p.1))) ∧ (l1 || decide (q < y)) = (lb || ((pairs J B).take (k2 + 1)).any (fun p => decide (lk (pairs I A) p.1 < p.2)))) := F
          clear F hq HG HL
          go_wp2
          · have t : y < q := by assumption
            go_round
            case rel => exact ⟨k2 + 1, true, l1, by omega, by go_num, rfl, rfl, by rw [← HF.out.1, decide_eq_true t, Bool.or_true], by rw [← HF.out.2, decide_eq_false (by omega), Bool.or_false]⟩
            case measure => simp [intOf]; omega
          · have t : q < y := by assumption
            go_round
            case rel => exact ⟨k2 + 1, g1, true, by omega, by go_num, rfl, rfl, by rw [← HF.out.1, decide_eq_false (by omega), Bool.or_false], by rw [← HF.out.2, decide_eq_true t, Bool.or_true]⟩
            case measure => simp [intOf]; omega
          · have t : y ≤ q := by assumption
            have t' : q ≤ y := by assumption
            go_round
            case rel => exact ⟨k2 + 1, g1, l1, by omega, by go_num, rfl, rfl, by rw [← HF.out.1, decide_eq_false (by omega), Bool.or_false], by rw [← HF.out.2, decide_eq_false (by omega), Bool.or_false]⟩
            case measure => simp [intOf]; omega
        · have EG : Hid (gM (pairs I A) (pairs J B) = g1) := by
            have h := HG.out
            rw [List.take_of_length_le (by rw [PW.out]; omega), HG0.out] at h
            exact h.symm
          have EL : Hid (lM (pairs I A) (pairs J B) = l1) := by
            have h := HL.out
            rw [List.take_of_length_le (by rw [PW.out]; omega), HL0.out] at h
            exact h.symm
          clear HG HL HG0 HL0
          cases g1
          all_goals
            cases l1
            all_goals
              go_wp2
              go_ret
              refine ⟨?_, rfl⟩
              rw [EG.out, EL.out]
              rfl

end Go.Proofs.Qxb6600515aMods
