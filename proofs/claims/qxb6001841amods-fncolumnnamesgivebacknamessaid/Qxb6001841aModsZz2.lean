/-
  The byte bounds of seat b6001841aM's laws over one list and one string.
-/
import Derived.Test.Qxb6001841aModsZz
namespace Go.Proofs.Qxb6001841aMods
open Go.RowKit

set_option maxHeartbeats 1000000 in
theorem zz16 (a0 : Option Addr) (n0 c0 : Nat) (s0 : List ByteArray) (x : Int) (t : ByteArray) (w : World) (h0 : Strs w a0 n0 s0) :
    Calls Trym.prog 16 #[.slice a0 n0 c0, .int .i64 x, .string t] w fun e w' =>
      (e = .returned (.bool false) ∨ e = .returned (.bool true) ∧ Small s0 ∧ t.size ≤ 1048576) ∧ Below w.heap.size w w' := by
  go_enter Trym.func16, Trym.ntmps16
  go_wp2
  · go_ret
    exact ⟨.inl rfl, Below.refl _ _⟩
  · have g0 : n0 ≤ 1048576 := by omega
    go_loop [7, 8] (fun z i => ∃ (k : Nat) (m : Int), k ≤ n0 ∧ i = .int .i64 k ∧ z = .int .i64 m ∧ 0 ≤ m ∧ m ≤ 1048576 ∧ Upto s0 k) (fun _ i => n0 - (intOf i).toNat)
    case atStart => exact ⟨0, _, Nat.zero_le _, rfl, rfl, by omega, by omega, Upto.zero _⟩
    case round =>
      obtain ⟨k0, m0, hk0, rfl, rfl, hp0, hq0, hu0⟩ := hrel
      by_cases hlt0 : k0 < n0
      · obtain ⟨b, off, s, rfl, hs, hc⟩ := h0.at hlt0
        by_cases hsz : s.size ≤ 1048576
        · go_wp2
          · go_ret
            exact ⟨.inl rfl, Below.refl _ _⟩
          · go_round
            case rel => exact ⟨k0 + 1, m0 + s.size, by omega, by go_num, rfl, by omega, by omega, hu0.succ hs hsz⟩
            case measure => simp [intOf]; omega
        · go_wp2
          go_ret
          exact ⟨.inl rfl, Below.refl _ _⟩
      · have U0 : Hid (Small s0) := Upto.small h0.1 (by rwa [show k0 = n0 from by omega] at hu0) g0
        clear hu0
        go_wp2
        · go_ret
          exact ⟨.inl rfl, Below.refl _ _⟩
        · go_ret
          exact ⟨.inl rfl, Below.refl _ _⟩
        · go_ret
          exact ⟨.inr ⟨rfl, U0.out, by omega⟩, Below.refl _ _⟩

set_option maxHeartbeats 1000000 in
theorem zz14 (a0 : Option Addr) (n0 c0 : Nat) (s0 : List ByteArray) (t : ByteArray) (w : World) (h0 : Strs w a0 n0 s0) :
    Calls Trym.prog 14 #[.slice a0 n0 c0, .string t] w fun e w' =>
      (e = .returned (.bool false) ∨ e = .returned (.bool true) ∧ Small s0 ∧ t.size ≤ 1048576) ∧ Below w.heap.size w w' := by
  go_enter Trym.func14, Trym.ntmps14
  go_wp2
  · go_ret
    exact ⟨.inl rfl, Below.refl _ _⟩
  · have g0 : n0 ≤ 1048576 := by omega
    go_loop [5, 6] (fun z i => ∃ (k : Nat) (m : Int), k ≤ n0 ∧ i = .int .i64 k ∧ z = .int .i64 m ∧ 0 ≤ m ∧ m ≤ 1048576 ∧ Upto s0 k) (fun _ i => n0 - (intOf i).toNat)
    case atStart => exact ⟨0, _, Nat.zero_le _, rfl, rfl, by omega, by omega, Upto.zero _⟩
    case round =>
      obtain ⟨k0, m0, hk0, rfl, rfl, hp0, hq0, hu0⟩ := hrel
      by_cases hlt0 : k0 < n0
      · obtain ⟨b, off, s, rfl, hs, hc⟩ := h0.at hlt0
        by_cases hsz : s.size ≤ 1048576
        · go_wp2
          · go_ret
            exact ⟨.inl rfl, Below.refl _ _⟩
          · go_round
            case rel => exact ⟨k0 + 1, m0 + s.size, by omega, by go_num, rfl, by omega, by omega, hu0.succ hs hsz⟩
            case measure => simp [intOf]; omega
        · go_wp2
          go_ret
          exact ⟨.inl rfl, Below.refl _ _⟩
      · have U0 : Hid (Small s0) := Upto.small h0.1 (by rwa [show k0 = n0 from by omega] at hu0) g0
        clear hu0
        go_wp2
        · go_ret
          exact ⟨.inl rfl, Below.refl _ _⟩
        · go_ret
          exact ⟨.inl rfl, Below.refl _ _⟩
        · go_ret
          exact ⟨.inr ⟨rfl, U0.out, by omega⟩, Below.refl _ _⟩

set_option maxHeartbeats 1000000 in
theorem zz7 (a0 : Option Addr) (n0 c0 : Nat) (s0 : List ByteArray) (t : ByteArray) (w : World) (h0 : Strs w a0 n0 s0) :
    Calls Trym.prog 7 #[.string t, .slice a0 n0 c0] w fun e w' =>
      (e = .returned (.bool false) ∨ e = .returned (.bool true) ∧ Small s0 ∧ t.size ≤ 1048576) ∧ Below w.heap.size w w' := by
  go_enter Trym.func7, Trym.ntmps7
  go_wp2
  · go_ret
    exact ⟨.inl rfl, Below.refl _ _⟩
  · go_ret
    exact ⟨.inl rfl, Below.refl _ _⟩
  · go_ret
    exact ⟨.inl rfl, Below.refl _ _⟩
  · have g0 : n0 ≤ 1048576 := by omega
    go_loop [5, 6] (fun z i => ∃ (k : Nat) (m : Int), k ≤ n0 ∧ i = .int .i64 k ∧ z = .int .i64 m ∧ 0 ≤ m ∧ m ≤ 1048576 ∧ Upto s0 k) (fun _ i => n0 - (intOf i).toNat)
    case atStart => exact ⟨0, _, Nat.zero_le _, rfl, rfl, by omega, by omega, Upto.zero _⟩
    case round =>
      obtain ⟨k0, m0, hk0, rfl, rfl, hp0, hq0, hu0⟩ := hrel
      by_cases hlt0 : k0 < n0
      · obtain ⟨b, off, s, rfl, hs, hc⟩ := h0.at hlt0
        by_cases hsz : s.size ≤ 1048576
        · go_wp2
          · go_ret
            exact ⟨.inl rfl, Below.refl _ _⟩
          · go_round
            case rel => exact ⟨k0 + 1, m0 + s.size, by omega, by go_num, rfl, by omega, by omega, hu0.succ hs hsz⟩
            case measure => simp [intOf]; omega
        · go_wp2
          go_ret
          exact ⟨.inl rfl, Below.refl _ _⟩
      · have U0 : Hid (Small s0) := Upto.small h0.1 (by rwa [show k0 = n0 from by omega] at hu0) g0
        clear hu0
        go_wp2
        · go_ret
          exact ⟨.inr ⟨rfl, U0.out, by omega⟩, Below.refl _ _⟩

end Go.Proofs.Qxb6001841aMods
