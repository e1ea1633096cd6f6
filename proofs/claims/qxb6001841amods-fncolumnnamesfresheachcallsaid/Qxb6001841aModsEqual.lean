/-
  b1Equal; the walks of FnColumnNamesGiveBackNames and FnColumnNamesFreshEachCall.
-/
import Derived.Test.Qxb6001841aModsNames
import Derived.Test.Qxb6001841aModsZz2
namespace Go.Proofs.Qxb6001841aMods
open Go.RowKit

set_option maxHeartbeats 400000 in
theorem equal_cons (b off c b' off' c' : Nat) (n : Nat) (xs ys : List ByteArray) (hxl : Hid (xs.length = n)) (hyl : Hid (ys.length = n)) (w : World) (hl : n ≤ 1048577)
    (hx : ∀ i, i < n → w.cell? ⟨b, off + i, none⟩ = some (.string (xs.getD i ByteArray.empty)))
    (hy : ∀ i, i < n → w.cell? ⟨b', off' + i, none⟩ = some (.string (ys.getD i ByteArray.empty))) :
    Calls Trym.prog 12 #[.slice (some ⟨b, off, none⟩) n c, .slice (some ⟨b', off', none⟩) n c'] w fun e w' => e = .returned (.bool (sameB xs ys)) ∧ Below w.heap.size w w' := by
  go_enter Trym.func12, Trym.ntmps12
  go_wp2
  go_loopw [5] (fun i wr => ∃ k : Nat, k ≤ n ∧ i = .int .i64 k ∧ sameB xs ys = sameB (xs.drop k) (ys.drop k) ∧ Below w.heap.size w wr) (fun i _ => n - (intOf i).toNat)
  case atStart => exact ⟨0, Nat.zero_le _, rfl, rfl, Below.refl _ _⟩
  case round =>
    obtain ⟨k, hk, rfl, hsm, hb⟩ := hrel
    have HS : Hid (sameB xs ys = sameB (xs.drop k) (ys.drop k)) := hsm
    clear hsm
    by_cases hlt : k < n
    · have hxk := hx k hlt
      have hyk := hy k hlt
      have hxk' : wr.cell? ⟨b, off + k, none⟩ = some (.string (xs.getD k ByteArray.empty)) := by
        rw [hb.cell (p := ⟨b, off + k, none⟩) (cell_lt hxk)]; exact hxk
      have hyk' : wr.cell? ⟨b', off' + k, none⟩ = some (.string (ys.getD k ByteArray.empty)) := by
        rw [hb.cell (p := ⟨b', off' + k, none⟩) (cell_lt hyk)]; exact hyk
      have hn0 : (k : Int) < (n : Int) := by omega
      clear hxk hyk hx hy
      generalize hs : xs.getD k ByteArray.empty = s at *
      generalize ht : ys.getD k ByteArray.empty = t at *
      have HS2 : Hid (s = xs.getD k ByteArray.empty ∧ t = ys.getD k ByteArray.empty) := ⟨hs.symm, ht.symm⟩
      clear hs ht
      go_wp2
      go_quiet (fail)
      go_wp2
      · have hne : (!s.toList == t.toList) = true := by assumption
        go_ret
        refine ⟨?_, below_drewN hb _⟩
        have h1 : xs.length = n := hxl
        have h2 : ys.length = n := hyl
        rw [HS.out, sameB_drop _ _ _ (by omega) (by omega), ← HS2.out.1, ← HS2.out.2]
        simp at hne
        simp [hne]
      · have hne : (!s.toList == t.toList) = false := by assumption
        go_roundw
        case rel =>
          refine ⟨k + 1, by omega, by go_num, ?_, below_drewN hb _⟩
          have h1 : xs.length = n := hxl
          have h2 : ys.length = n := hyl
          rw [HS.out, sameB_drop _ _ _ (by omega) (by omega), ← HS2.out.1, ← HS2.out.2]
          simp at hne
          simp [hne]
        case measure => simp [intOf]; omega
    · go_wp2
      go_ret
      refine ⟨?_, hb⟩
      rw [HS.out]
      have h1 : xs.length = n := hxl
      have h2 : ys.length = n := hyl
      rw [List.drop_of_length_le (by omega), List.drop_of_length_le (by omega)]; rfl

theorem equal_zero (a a' : Option Addr) (c c' : Nat) (w : World) :
    Calls Trym.prog 12 #[.slice a 0 c, .slice a' 0 c'] w fun e w' => e = .returned (.bool true) ∧ Below w.heap.size w w' := by
  go_enter Trym.func12, Trym.ntmps12
  go_wp2
  go_loop [5] (fun i => i = .int .i64 0) (fun _ => 0)
  case atStart => rfl
  case round =>
    obtain rfl := hrel
    go_wp2
    go_ret
    exact ⟨rfl, Below.refl _ _⟩

theorem equal_short (a a' : Option Addr) (n n' c c' : Nat) (w : World) (h : ((n : Int) == (n' : Int)) = false) :
    Calls Trym.prog 12 #[.slice a n c, .slice a' n' c'] w fun e w' => e = .returned (.bool false) ∧ Below w.heap.size w w' := by
  go_enter Trym.func12, Trym.ntmps12
  go_wp2
  go_ret
  exact ⟨rfl, Below.refl _ _⟩

/-- b1Equal: what it answers; nothing is written. -/
theorem equal12 (a a' : Option Addr) (n n' c c' : Nat) (xs ys : List ByteArray) (w : World) (hx : Strs w a n xs) (hy : Strs w a' n' ys) (hl : n ≤ 1048577) :
    Calls Trym.prog 12 #[.slice a n c, .slice a' n' c'] w fun e w' => e = .returned (.bool (sameB xs ys)) ∧ Below w.heap.size w w' := by
  obtain ⟨hn, hx⟩ := hx
  obtain ⟨hn', hy⟩ := hy
  by_cases hnn : n = n'
  · subst hnn
    by_cases h0 : n = 0
    · subst h0
      have e1 : xs = [] := List.length_eq_zero_iff.1 hn.symm
      have e2 : ys = [] := List.length_eq_zero_iff.1 hn'.symm
      subst e1 e2
      exact equal_zero a a' c c' w
    · rcases hx with rfl | ⟨b, off, rfl, hx⟩
      · simp at hn; omega
      rcases hy with rfl | ⟨b', off', rfl, hy⟩
      · simp at hn'; omega
      exact equal_cons b off c b' off' c' n xs ys hn.symm hn'.symm w hl (fun i hi => hx i (by omega)) (fun i hi => hy i (by omega))
  · rw [sameB_len (by omega)]
    exact equal_short a a' n n' c c' w (by simp; omega)


end Go.Proofs.Qxb6001841aMods
