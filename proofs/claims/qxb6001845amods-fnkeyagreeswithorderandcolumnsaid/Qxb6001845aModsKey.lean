/-
  Key, order, Column and the kinds' questions.
-/
import Derived.Test.Qxb6001845aModsBuild
namespace Go.Proofs.Qxb6001845aMods
open Go.RowKit

/-- Key: no key of one column. -/
theorem key_no (tb : Nat) (ka : Option Addr) (m kc : Nat) (w : World) (h2 : w.cell? ⟨tb, 2, none⟩ = some (.slice ka m kc)) (hm : ((m : Int) != 1) = true) :
    Calls Trym.prog 11 #[.pointer (some ⟨tb, 0, none⟩)] w fun e w' => e = .returned (.pointer none) ∧ w' = w := by
  go_enter Trym.func11, Trym.ntmps11
  go_wp2
  go_ret
  exact ⟨rfl, rfl⟩

/-- Key: one column, of another kind. -/
theorem key_other (tb kb kc b : Nat) (kd : Int) (w : World) (h2 : w.cell? ⟨tb, 2, none⟩ = some (.slice (some ⟨kb, 0, none⟩) 1 kc)) (h3 : w.cell? ⟨kb, 0, none⟩ = some (.pointer (some ⟨b, 0, none⟩))) (h4 : w.cell? ⟨b, 1, none⟩ = some (.int .i64 kd)) (hm : (kd == 0) = false) :
    Calls Trym.prog 11 #[.pointer (some ⟨tb, 0, none⟩)] w fun e w' => e = .returned (.pointer none) ∧ w' = w := by
  go_enter Trym.func11, Trym.ntmps11
  go_wp2
  go_ret
  exact ⟨rfl, rfl⟩

/-- Key: one Integer column. -/
theorem key_yes (tb kb kc b : Nat) (w : World) (h2 : w.cell? ⟨tb, 2, none⟩ = some (.slice (some ⟨kb, 0, none⟩) 1 kc)) (h3 : w.cell? ⟨kb, 0, none⟩ = some (.pointer (some ⟨b, 0, none⟩))) (h4 : w.cell? ⟨b, 1, none⟩ = some (.int .i64 0)) :
    Calls Trym.prog 11 #[.pointer (some ⟨tb, 0, none⟩)] w fun e w' => e = .returned (.pointer (some ⟨b, 0, none⟩)) ∧ w' = w := by
  go_enter Trym.func11, Trym.ntmps11
  go_wp2
  go_ret
  exact ⟨rfl, rfl⟩

/-- ZZTableOrder: the key, where there is one. -/
theorem order_key (tb : Nat) (kb kc : Nat) (w : World) (h2 : w.cell? ⟨tb, 2, none⟩ = some (.slice (some ⟨kb, 0, none⟩) 1 kc)) :
    Calls Trym.prog 12 #[.pointer (some ⟨tb, 0, none⟩)] w fun e w' => e = .returned (.slice (some ⟨kb, 0, none⟩) 1 kc) ∧ w' = w := by
  go_enter Trym.func12, Trym.ntmps12
  go_wp2
  go_ret
  exact ⟨rfl, rfl⟩

theorem toList_inj {x y : ByteArray} (h : x.toList = y.toList) : x = y := by
  rw [ByteArray.toList_eq, ByteArray.toList_eq] at h
  cases x; cases y; simpa using h

set_option maxHeartbeats 400000 in
/-- Column: the name of column p finds column p. -/
theorem column_at (tb base g n p bb : Nat) (nm : ByteArray) (kd : Int) (zs : List Int) (xs : List Value) (w : World) (h1 : w.cell? ⟨tb, 1, none⟩ = some (.slice (some ⟨g, 0, none⟩) n n)) (hn : n ≤ 65536)
    (hown : w.ownsRow base 36 1 (.slice (some ⟨g, 0, none⟩) n n) n xs) (hcols : ColsTo w g zs xs n) (hp : p < n) (hx : xs[p]? = some (.pointer (some ⟨bb, 0, none⟩))) (hcol : Col w bb nm kd) (hval : Hid (val (nm.data.toList.drop 1) = p)) :
    Calls Trym.prog 13 #[.pointer (some ⟨tb, 0, none⟩), .string nm] w fun e w' => e = .returned (.pointer (some ⟨bb, 0, none⟩)) ∧ w' = w := by
  have HX : Hid (xs[p]? = some (.pointer (some ⟨bb, 0, none⟩))) := hx
  clear hx
  go_enter Trym.func13, Trym.ntmps13
  go_wp2
  go_loop [12] (fun i => ∃ k : Nat, k ≤ p ∧ i = .int .i64 k) (fun i => n - (intOf i).toNat)
  case atStart => exact ⟨0, Nat.zero_le _, rfl⟩
  case round =>
    obtain ⟨k, hk, rfl⟩ := hrel
    have hkn : k < n := by omega
    obtain ⟨b, nk, q1, q2, q3, q4, q5⟩ := hcols k hkn
    have hck : w.cell? ⟨g, k, none⟩ = some (.pointer (some ⟨b, 0, none⟩)) := by rw [hown.cellAt k (by omega)]; exact q1
    by_cases e : k = p
    · have eb : b = bb := by
        have := HX.out
        rw [← e, q1] at this
        simpa using this
      subst eb
      have e0 := hcol.c0
      clear q1 q2 q3 q4 q5 e
      go_wp2
      go_ret
      exact ⟨rfl, rfl⟩
    · have e0 := q4.c0
      have hne : (nk.toList == nm.toList) = false := by
        simp
        intro h
        have := toList_inj h
        subst this
        have h2 := hval.out
        omega
      clear q1 q2 q3 q4 q5 h1
      go_wp2
      go_round
      case rel => exact ⟨k + 1, by omega, by go_num⟩
      case measure => simp [intOf]; omega

end Go.Proofs.Qxb6001845aMods
