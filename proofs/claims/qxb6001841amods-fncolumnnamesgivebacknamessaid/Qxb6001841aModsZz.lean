/-
  The byte bounds of seat b6001841aM's laws: what each zzBytes function tells.
-/
import Derived.Test.Qxb6001841aModsBase
namespace Go.Proofs.Qxb6001841aMods
open Go.RowKit

/-- Few and short strings. -/
def Small (ss : List ByteArray) : Prop := ss.length ≤ 1048576 ∧ ∀ s ∈ ss, s.size ≤ 1048576

/-- The first k strings are short. -/
def Upto (ss : List ByteArray) (k : Nat) : Prop := ∀ i, i < k → (ss.getD i ByteArray.empty).size ≤ 1048576

theorem Upto.zero (ss : List ByteArray) : Upto ss 0 := fun i hi => by omega
theorem Upto.succ {ss : List ByteArray} {k : Nat} (h : Upto ss k) {s : ByteArray} (hs : Hid (s = ss.getD k ByteArray.empty)) (hl : s.size ≤ 1048576) : Upto ss (k + 1) := fun i hi => by
  by_cases e : i = k
  · subst e; rw [← hs.out]; exact hl
  · exact h i (by omega)
theorem Upto.small {ss : List ByteArray} {n : Nat} (hn : n = ss.length) (h : Upto ss n) (hl : n ≤ 1048576) : Small ss := by
  subst hn
  refine ⟨hl, fun s hs => ?_⟩
  obtain ⟨i, hi, rfl⟩ := List.getElem_of_mem hs
  have := h i hi
  simpa [hi] using this

/-- The cell that a round reads. -/
theorem Strs.at {w : World} {a : Option Addr} {n : Nat} {ss : List ByteArray} (h : Strs w a n ss) {k : Nat} (hk : k < n) :
    ∃ b off s, a = some ⟨b, off, none⟩ ∧ Hid (s = ss.getD k ByteArray.empty) ∧ w.cell? ⟨b, off + k, none⟩ = some (.string s) := by
  obtain ⟨rfl, h⟩ := h
  rcases h with rfl | ⟨b, off, rfl, hc⟩
  · simp at hk
  · exact ⟨b, off, _, rfl, rfl, hc k hk⟩

set_option maxHeartbeats 1000000 in
theorem zz15 (a0 a1 a2 : Option Addr) (n0 n1 n2 c0 c1 c2 : Nat) (s0 s1 s2 : List ByteArray) (w : World) (h0 : Strs w a0 n0 s0) (h1 : Strs w a1 n1 s1) (h2 : Strs w a2 n2 s2) :
    Calls Trym.prog 15 #[.slice a0 n0 c0, .slice a1 n1 c1, .slice a2 n2 c2] w fun e w' =>
      (e = .returned (.bool false) ∨ e = .returned (.bool true) ∧ Small s0 ∧ Small s1 ∧ Small s2) ∧ Below w.heap.size w w' := by
  go_enter Trym.func15, Trym.ntmps15
  go_wp2
  · go_ret
    exact ⟨.inl rfl, Below.refl _ _⟩
  · have g0 : n0 ≤ 1048576 := by omega
    go_loop [7, 8] (fun z i => ∃ (k : Nat) (m : Int), k ≤ n0 ∧ i = .int .i64 k ∧ z = .int .i64 m ∧ 0 ≤ m ∧ m ≤ 1048576 ∧ Upto s0 k) (fun _ i => n0 - (intOf i).toNat)
    case atStart => exact ⟨0, _, Nat.zero_le _, rfl, rfl, by omega, by omega, Upto.zero _⟩
    case round =>
      obtain ⟨k0, m0, hk0, rfl, rfl, hp0, hq0, hu0⟩ := hrel
      by_cases hlt0 : k0 < n0
      · obtain ⟨b, off, s, rfl, hs, hc⟩ := h0.at hlt0
        by_cases hsz : s.size ≤ 1048576
        · go_wp2
          · go_ret
            exact ⟨.inl rfl, Below.refl _ _⟩
          · go_round
            case rel => exact ⟨k0 + 1, m0 + s.size, by omega, by go_num, rfl, by omega, by omega, hu0.succ hs hsz⟩
            case measure => simp [intOf]; omega
        · go_wp2
          go_ret
          exact ⟨.inl rfl, Below.refl _ _⟩
      · have U0 : Hid (Small s0) := Upto.small h0.1 (by rwa [show k0 = n0 from by omega] at hu0) g0
        clear hu0
        go_wp2
        · go_ret
          exact ⟨.inl rfl, Below.refl _ _⟩
        · go_ret
          exact ⟨.inl rfl, Below.refl _ _⟩
        · have g1 : n1 ≤ 1048576 := by omega
          go_loop [7, 9] (fun z i => ∃ (k : Nat) (m : Int), k ≤ n1 ∧ i = .int .i64 k ∧ z = .int .i64 m ∧ 0 ≤ m ∧ m ≤ 1048576 ∧ Upto s1 k) (fun _ i => n1 - (intOf i).toNat)
          case atStart => exact ⟨0, _, Nat.zero_le _, rfl, rfl, by omega, by omega, Upto.zero _⟩
          case round =>
            obtain ⟨k1, m1, hk1, rfl, rfl, hp1, hq1, hu1⟩ := hrel
            by_cases hlt1 : k1 < n1
            · obtain ⟨b, off, s, rfl, hs, hc⟩ := h1.at hlt1
              by_cases hsz : s.size ≤ 1048576
              · go_wp2
                · go_ret
                  exact ⟨.inl rfl, Below.refl _ _⟩
                · go_round
                  case rel => exact ⟨k1 + 1, m1 + s.size, by omega, by go_num, rfl, by omega, by omega, hu1.succ hs hsz⟩
                  case measure => simp [intOf]; omega
              · go_wp2
                go_ret
                exact ⟨.inl rfl, Below.refl _ _⟩
            · have U1 : Hid (Small s1) := Upto.small h1.1 (by rwa [show k1 = n1 from by omega] at hu1) g1
              clear hu1
              go_wp2
              · go_ret
                exact ⟨.inl rfl, Below.refl _ _⟩
              · go_ret
                exact ⟨.inl rfl, Below.refl _ _⟩
              · have g2 : n2 ≤ 1048576 := by omega
                go_loop [7, 10] (fun z i => ∃ (k : Nat) (m : Int), k ≤ n2 ∧ i = .int .i64 k ∧ z = .int .i64 m ∧ 0 ≤ m ∧ m ≤ 1048576 ∧ Upto s2 k) (fun _ i => n2 - (intOf i).toNat)
                case atStart => exact ⟨0, _, Nat.zero_le _, rfl, rfl, by omega, by omega, Upto.zero _⟩
                case round =>
                  obtain ⟨k2, m2, hk2, rfl, rfl, hp2, hq2, hu2⟩ := hrel
                  by_cases hlt2 : k2 < n2
                  · obtain ⟨b, off, s, rfl, hs, hc⟩ := h2.at hlt2
                    by_cases hsz : s.size ≤ 1048576
                    · go_wp2
                      · go_ret
                        exact ⟨.inl rfl, Below.refl _ _⟩
                      · go_round
                        case rel => exact ⟨k2 + 1, m2 + s.size, by omega, by go_num, rfl, by omega, by omega, hu2.succ hs hsz⟩
                        case measure => simp [intOf]; omega
                    · go_wp2
                      go_ret
                      exact ⟨.inl rfl, Below.refl _ _⟩
                  · have U2 : Hid (Small s2) := Upto.small h2.1 (by rwa [show k2 = n2 from by omega] at hu2) g2
                    clear hu2
                    go_wp2
                    go_ret
                    exact ⟨.inr ⟨rfl, U0.out, U1.out, U2.out⟩, Below.refl _ _⟩

end Go.Proofs.Qxb6001841aMods
