/-
  fitRequest and the model.
-/
import Derived.Test.Qxb6601019aModsEntries
namespace Go.Proofs.Qxb6601019aMods
open Go.RowKit

set_option maxHeartbeats 1000000 in
/-- fitRequest: a prefix. -/
theorem fit30 (g n : Nat) (zs : List Nat) (w : World) (hn : Hid (n = zs.length)) (he : Ents w g n zs n) (hg : g < w.heap.size) (hl : n ≤ 4096) (hb : Hid (∀ i, i < n → zs.getD i 0 ≤ 2097152)) :
    Calls Trym.prog 30 #[.slice (some ⟨g, 0, none⟩) n n] w fun e w' => ∃ k, e = .returned (.slice (some ⟨g, 0, none⟩) k n) ∧ Fits zs n k ∧ Below w.heap.size w w' := by
  go_enter Trym.func30, Trym.ntmps30
  go_wp2
  go_loopw [3, 8] (fun s i wr => ∃ k : Nat, k ≤ n ∧ i = .int .i64 k ∧ s = .int .i64 (sumTo zs k : Nat) ∧ (∀ i, 1 ≤ i → i < k → sumTo zs (i + 1) ≤ 1048576) ∧ Below w.heap.size w wr) (fun _ i _ => n - (intOf i).toNat)
  case atStart => exact ⟨0, Nat.zero_le _, rfl, by rw [sumTo_zero]; rfl, fun i h1 h2 => by omega, Below.refl _ _⟩
  case round =>
    obtain ⟨k, hk, rfl, rfl, hv, hbr⟩ := hrel
    have HV : Hid (∀ i, 1 ≤ i → i < k → sumTo zs (i + 1) ≤ 1048576) := hv
    clear hv
    have hS0 := sumTo_le hn.out hb.out k hk
    have hS : sumTo zs k ≤ 8589934592 := by omega
    clear hS0
    by_cases hlt : k < n
    · obtain ⟨x, y, u, a, m, c, ⟨q0, q1, q2, q3⟩, hm0⟩ := (he.of_block (hbr.block g hg)).1 k hlt
      have hm := hm0 hlt
      have HM : Hid (sumTo zs (k + 1) = sumTo zs k + m) := sumTo_step hn.out hlt hm
      have hmb : m ≤ 2097152 := by rw [hm]; exact hb.out k hlt
      clear hm hm0 he
      generalize sumTo zs k = S at *
      by_cases hbig : S + m ≤ 1048576
      · go_wp2
        go_roundw
        case rel =>
          refine ⟨k + 1, by omega, by go_num, by rw [HM.out]; go_num, fun i h1 h2 => ?_, hbr.alloc hbr.size _⟩
          by_cases e : i = k
          · subst e; rw [HM.out]; omega
          · exact HV.out i h1 (by omega)
        case measure => simp [intOf]; omega
      · by_cases h0 : k = 0
        · subst h0
          go_wp2
          go_roundw
          case rel => exact ⟨1, by omega, by go_num, by rw [HM.out]; go_num, fun i h1 h2 => by omega, hbr.alloc hbr.size _⟩
          case measure => simp [intOf]; omega
        · go_wp2
          go_ret
          exact ⟨k, rfl, ⟨hk, fun _ => by omega, HV.out, fun _ => by rw [HM.out]; omega⟩, hbr.alloc hbr.size _⟩
    · obtain rfl : k = n := by omega
      go_wp2
      go_ret
      exact ⟨k, rfl, ⟨hk, fun h => h, HV.out, fun h => by omega⟩, hbr⟩

/-- ZZfitRequest. -/
theorem fit13 (g n : Nat) (zs : List Nat) (w : World) (hn : Hid (n = zs.length)) (he : Ents w g n zs n) (hg : g < w.heap.size) (hl : n ≤ 4096) (hb : Hid (∀ i, i < n → zs.getD i 0 ≤ 2097152)) :
    Calls Trym.prog 13 #[.slice (some ⟨g, 0, none⟩) n n] w fun e w' => ∃ k, e = .returned (.slice (some ⟨g, 0, none⟩) k n) ∧ Fits zs n k ∧ Below w.heap.size w w' := by
  go_enter Trym.func13, Trym.ntmps13
  go_wp2_with fail
  refine (fit30 g n zs _ hn he hg hl hb).mono ?_
  rintro e w1 ⟨k, rfl, hf, hb1⟩
  have HF : Hid (Fits zs n k) := hf
  clear hf
  go_wp2
  go_ret
  exact ⟨k, rfl, HF.out, hb1⟩

set_option maxHeartbeats 1000000 in
/-- zzModelFit: the longest prefix within the budget, or one entry. -/
theorem model15 (a : Option Addr) (n c : Nat) (zs : List Nat) (w : World) (h : Lens w a n zs) (hl : n ≤ 4096) (hb : Hid (∀ i, i < n → zs.getD i 0 ≤ 2097152)) :
    Calls Trym.prog 15 #[.slice a n c] w fun e w' => (∃ j : Nat, e = .returned (.int .i64 j) ∧ Longest zs n j) ∧ w' = w := by
  have hn : Hid (n = zs.length) := h.1
  go_enter Trym.func15, Trym.ntmps15
  go_wp2
  go_loop [4, 5] (fun s i => ∃ k : Nat, k ≤ n ∧ i = .int .i64 k ∧ s = .int .u64 (sumTo zs k : Nat)) (fun _ i => n - (intOf i).toNat)
  case atStart => exact ⟨0, Nat.zero_le _, rfl, by rw [sumTo_zero]; rfl⟩
  case round =>
    obtain ⟨k, hk, rfl, rfl⟩ := hrel
    have hS0 := sumTo_le hn.out hb.out k hk
    have hS : sumTo zs k ≤ 8589934592 := by omega
    clear hS0
    by_cases hlt : k < n
    · obtain ⟨b, off, z, rfl, hz, hc⟩ := h.at hlt
      have HM : Hid (sumTo zs (k + 1) = sumTo zs k + z) := sumTo_step hn.out hlt hz.out
      have hzb : z ≤ 2097152 := by rw [hz.out]; exact hb.out k hlt
      generalize sumTo zs k = S at *
      go_wp2
      go_round
      case rel => exact ⟨k + 1, by omega, by go_num, by rw [HM.out]; go_num⟩
      case measure => simp [intOf]; omega
    · obtain rfl : k = n := by omega
      clear hS
      go_wp2
      go_loop [4, 6] (fun s i => ∃ j : Nat, j ≤ k ∧ i = .int .i64 j ∧ s = .int .u64 (sumTo zs j : Nat) ∧ (j < k → 1048576 < sumTo zs (j + 1))) (fun _ i => (intOf i).toNat)
      case atStart => exact ⟨k, Nat.le_refl _, rfl, rfl, fun h => by omega⟩
      case round =>
        obtain ⟨j, hj, rfl, rfl, hv⟩ := hrel
        have HV : Hid (j < k → 1048576 < sumTo zs (j + 1)) := hv
        clear hv
        have hS0 := sumTo_le hn.out hb.out j hj
        have hS : sumTo zs j ≤ 8589934592 := by omega
        clear hS0
        by_cases h0 : j = 0
        · subst h0
          have HV1 : Hid (0 < k → 1048576 < sumTo zs 1) := HV.out
          clear HV
          by_cases hk0 : k = 0
          · subst hk0
            go_wp2
            go_ret
            exact ⟨⟨0, rfl, ⟨Nat.le_refl _, fun h => by omega, fun h => by omega, fun h => by omega⟩⟩, rfl⟩
          · go_wp2
            go_ret
            refine ⟨⟨1, rfl, ⟨by omega, fun _ => Nat.le_refl _, fun h => by omega, fun h => ?_⟩⟩, rfl⟩
            have h1 := HV1.out (by omega)
            have h2 := sumTo_mono (zs := zs) hn.out (i := 1) (j := 1 + 1) (by omega) (by omega)
            omega
        · by_cases hbig : sumTo zs j ≤ 1048576
          · have HS : Hid (sumTo zs j ≤ 1048576) := hbig
            go_wp2
            go_ret
            exact ⟨⟨j, rfl, ⟨hj, fun _ => by omega, fun _ => HS.out, HV.out⟩⟩, rfl⟩
          · obtain ⟨i, rfl⟩ : ∃ i, j = i + 1 := ⟨j - 1, by omega⟩
            obtain ⟨b, off, z, rfl, hz, hc⟩ := h.at (k := i) (by omega)
            have HM := sumTo_step hn.out (show i < k by omega) hz.out
            have hzS : z ≤ sumTo zs (i + 1) := by omega
            have HS : Hid (1048576 < sumTo zs (i + 1)) := by show _ < _; omega
            clear HV
            generalize hSe : sumTo zs (i + 1) = S at *
            have HE : Hid (sumTo zs (i + 1) = S) := hSe
            have HM' : Hid (S = sumTo zs i + z) := HM
            clear HM hSe
            go_wp2
            go_round
            case rel =>
              refine ⟨i, by omega, rfl, ?_, fun _ => by rw [HE.out]; exact HS.out⟩
              have e : (S : Int) - (z : Int) = ((sumTo zs i : Nat) : Int) := by have := HM'.out; omega
              rw [e]
            case measure => simp [intOf]

end Go.Proofs.Qxb6601019aMods
