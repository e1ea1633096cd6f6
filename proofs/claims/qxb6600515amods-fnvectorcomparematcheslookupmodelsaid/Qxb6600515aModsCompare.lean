/-
  Vector.Compare: the merge's answer.
-/
import Derived.Test.Qxb6600515aModsBuild
namespace Go.Proofs.Qxb6600515aMods
open Go.RowKit

set_option maxRecDepth 100000 in
set_option maxHeartbeats 1000000 in
theorem compare11 (gv nv gw nw : Nat) (I A J B : List Int) (w : World) (hv : Cnt w gv nv I A nv) (hw : Cnt w gw nw J B nw) (lv : nv ≤ 65536) (lw : nw ≤ 65536) (bv : gv < w.heap.size) (bw : gw < w.heap.size)
    (PV : Hid ((pairs I A).length = nv)) (PW : Hid ((pairs J B).length = nw)) (iv : Hid (Inc (pairs I A))) (iw : Hid (Inc (pairs J B))) :
    Calls Trym.prog 11 #[.agg #[.slice (some ⟨gv, 0, none⟩) nv nv], .agg #[.slice (some ⟨gw, 0, none⟩) nw nw]] w fun e w' => e = .returned (.int .i64 (code (gM (pairs I A) (pairs J B)) (lM (pairs I A) (pairs J B)))) ∧ Below w.heap.size w w' := by
  go_enter Trym.func11, Trym.ntmps11
  go_wp2
  go_loopw [5, 6, 7, 8] (fun g l p q wr => ∃ (i j : Nat) (gb lb : Bool), i ≤ nv ∧ j ≤ nw ∧ g = .bool gb ∧ l = .bool lb ∧ p = .int .i64 i ∧ q = .int .i64 j ∧
      gM (pairs I A) (pairs J B) = (gb || gM ((pairs I A).drop i) ((pairs J B).drop j)) ∧ lM (pairs I A) (pairs J B) = (lb || lM ((pairs I A).drop i) ((pairs J B).drop j)) ∧
      Below (w.heap.size + 2) ((w.alloc (.cells #[.slice (some ⟨gv, 0, none⟩) nv nv] 29)).alloc (.cells #[.slice (some ⟨gw, 0, none⟩) nw nw] 29)) wr) (fun _ _ p q _ => nv + nw - (intOf p).toNat - (intOf q).toNat)
  case atStart => exact ⟨0, 0, false, false, Nat.zero_le _, Nat.zero_le _, rfl, rfl, rfl, rfl, by simp, by simp, Below.refl _ _⟩
  case round =>
    obtain ⟨i, j, gb, lb, hi, hj, rfl, rfl, rfl, rfl, hg, hl, hb⟩ := hrel
    have HG : Hid (gM (pairs I A) (pairs J B) = (gb || gM ((pairs I A).drop i) ((pairs J B).drop j))) := hg
    have HL : Hid (lM (pairs I A) (pairs J B) = (lb || lM ((pairs I A).drop i) ((pairs J B).drop j))) := hl
    clear hg hl
    have r0 : wr.cell? ⟨w.heap.size, 0, none⟩ = some (.slice (some ⟨gv, 0, none⟩) nv nv) := by rw [hb.cell (p := ⟨w.heap.size, 0, none⟩) (by simp)]; simp
    have r1 : wr.cell? ⟨w.heap.size + 1, 0, none⟩ = some (.slice (some ⟨gw, 0, none⟩) nw nw) := by rw [hb.cell (p := ⟨w.heap.size + 1, 0, none⟩) (by simp)]; simp
    have HB : Below w.heap.size w wr := (((Below.refl _ _).alloc (Nat.le_refl _) _).alloc (by simp) _).trans (hb.mono (by omega))
    have hv' := hv.of_block (HB.block gv bv)
    have hw' := hw.of_block (HB.block gw bw)
    by_cases hin : i < nv
    · obtain ⟨x0, y0⟩ := hv'.1 i hin
      rw [if_pos hin] at x0 y0
      have hin' : (i : Int) < (nv : Int) := by omega
      by_cases hjn : j < nw
      · obtain ⟨x1, y1⟩ := hw'.1 j hjn
        rw [if_pos hjn] at x1 y1
        have hjn' : (j : Int) < (nw : Int) := by omega
        have hjne : ((j : Int) == (nw : Int)) = false := by simp; omega
        have hine : ((i : Int) == (nv : Int)) = false := by simp; omega
        by_cases hlt : I.getD i 0 < J.getD j 0
        · -- the device is missing in w
          have S := step_left PV.out PW.out hin hjn iw.out hlt
          have HG2 : Hid (gM (pairs I A) (pairs J B) = ((gb || decide (0 < A.getD i 0)) || gM ((pairs I A).drop (i + 1)) ((pairs J B).drop (j)))) := or_step HG.out S.1
          have HL2 : Hid (lM (pairs I A) (pairs J B) = ((lb || decide (A.getD i 0 < 0)) || lM ((pairs I A).drop (i + 1)) ((pairs J B).drop (j)))) := or_step HL.out S.2
          clear S HG HL
          generalize I.getD i 0 = ei at *
          generalize A.getD i 0 = ai at *
          generalize J.getD j 0 = ej at *
          generalize B.getD j 0 = aj at *
          clear hv' hw' hv hw
          go_wp2
          go_quiet (fail)
          go_wp2
          all_goals
            go_roundw
            case rel =>
              refine ⟨i + 1, j, _, _, by omega, by omega, rfl, rfl, by first | rfl | go_num, by first | rfl | go_num, ?_, ?_, by first | exact below_drewN hb _ | exact below_drewN (below_drewN hb _) _ | exact below_drewN (below_drewN (below_drewN hb _) _) _⟩
              · have h := HG2.out
                first | (rw [show gb = true from by assumption] at h; exact h) | (rw [show gb = false from by simpa using (show ¬ gb = true from by assumption)] at h; exact h)
              · have h := HL2.out
                first | (rw [show lb = true from by assumption] at h; exact h) | (rw [show lb = false from by simpa using (show ¬ lb = true from by assumption)] at h; exact h)
            case measure => simp [intOf]; omega
        · by_cases hgt : J.getD j 0 < I.getD i 0
          · -- the device is missing in v
            have S := step_right PV.out PW.out hin hjn iv.out hgt
            have HG2 : Hid (gM (pairs I A) (pairs J B) = ((gb || decide (B.getD j 0 < 0)) || gM ((pairs I A).drop (i)) ((pairs J B).drop (j + 1)))) := or_step HG.out S.1
            have HL2 : Hid (lM (pairs I A) (pairs J B) = ((lb || decide (0 < B.getD j 0)) || lM ((pairs I A).drop (i)) ((pairs J B).drop (j + 1)))) := or_step HL.out S.2
            clear S HG HL
            have hlt' : decide (I.getD i 0 < J.getD j 0) = false := decide_eq_false hlt
            generalize I.getD i 0 = ei at *
            generalize A.getD i 0 = ai at *
            generalize J.getD j 0 = ej at *
            generalize B.getD j 0 = aj at *
            clear hv' hw' hv hw
            go_wp2
            go_quiet (fail)
            go_wp2
            go_quiet (fail)
            go_wp2
            all_goals
              go_roundw
              case rel =>
                refine ⟨i, j + 1, _, _, by omega, by omega, rfl, rfl, by first | rfl | go_num, by first | rfl | go_num, ?_, ?_, by first | exact below_drewN hb _ | exact below_drewN (below_drewN hb _) _ | exact below_drewN (below_drewN (below_drewN hb _) _) _⟩
                · have h := HG2.out
                  first | (rw [show gb = true from by assumption] at h; exact h) | (rw [show gb = false from by simpa using (show ¬ gb = true from by assumption)] at h; exact h)
                · have h := HL2.out
                  first | (rw [show lb = true from by assumption] at h; exact h) | (rw [show lb = false from by simpa using (show ¬ lb = true from by assumption)] at h; exact h)
              case measure => simp [intOf]; omega
          · -- both have it
            have S := step_both PV.out PW.out hin hjn iv.out iw.out (by omega)
            have HG2 : Hid (gM (pairs I A) (pairs J B) = ((gb || decide (B.getD j 0 < A.getD i 0)) || gM ((pairs I A).drop (i + 1)) ((pairs J B).drop (j + 1)))) := or_step HG.out S.1
            have HL2 : Hid (lM (pairs I A) (pairs J B) = ((lb || decide (A.getD i 0 < B.getD j 0)) || lM ((pairs I A).drop (i + 1)) ((pairs J B).drop (j + 1)))) := or_step HL.out S.2
            clear S HG HL
            have hlt' : decide (I.getD i 0 < J.getD j 0) = false := decide_eq_false hlt
            have hgt' : decide (J.getD j 0 < I.getD i 0) = false := decide_eq_false hgt
            generalize I.getD i 0 = ei at *
            generalize A.getD i 0 = ai at *
            generalize J.getD j 0 = ej at *
            generalize B.getD j 0 = aj at *
            clear hv' hw' hv hw
            go_wp2
            go_quiet (fail)
            go_wp2
            go_quiet (fail)
            go_wp2
            go_quiet (fail)
            go_wp2
            all_goals
              go_roundw
              case rel =>
                refine ⟨i + 1, j + 1, _, _, by omega, by omega, rfl, rfl, by first | rfl | go_num, by first | rfl | go_num, ?_, ?_, by first | exact below_drewN hb _ | exact below_drewN (below_drewN hb _) _ | exact below_drewN (below_drewN (below_drewN hb _) _) _⟩
                · have h := HG2.out
                  first | (rw [show gb = true from by assumption] at h; exact h) | (rw [show gb = false from by simpa using (show ¬ gb = true from by assumption)] at h; exact h)
                · have h := HL2.out
                  first | (rw [show lb = true from by assumption] at h; exact h) | (rw [show lb = false from by simpa using (show ¬ lb = true from by assumption)] at h; exact h)
              case measure => simp [intOf]; omega
      · obtain rfl : j = nw := by omega
        -- w is through
        have S := step_left_end PV.out PW.out hin (Nat.le_refl _)
        have HG2 : Hid (gM (pairs I A) (pairs J B) = ((gb || decide (0 < A.getD i 0)) || gM ((pairs I A).drop (i + 1)) ((pairs J B).drop (j)))) := or_step HG.out S.1
        have HL2 : Hid (lM (pairs I A) (pairs J B) = ((lb || decide (A.getD i 0 < 0)) || lM ((pairs I A).drop (i + 1)) ((pairs J B).drop (j)))) := or_step HL.out S.2
        clear S HG HL
        generalize I.getD i 0 = ei at *
        generalize A.getD i 0 = ai at *
        clear hv' hw' hv hw
        go_wp2
        go_quiet (fail)
        go_wp2
        all_goals
          go_roundw
          case rel =>
            refine ⟨i + 1, j, _, _, by omega, by omega, rfl, rfl, by first | rfl | go_num, by first | rfl | go_num, ?_, ?_, by first | exact below_drewN hb _ | exact below_drewN (below_drewN hb _) _ | exact below_drewN (below_drewN (below_drewN hb _) _) _⟩
            · have h := HG2.out
              first | (rw [show gb = true from by assumption] at h; exact h) | (rw [show gb = false from by simpa using (show ¬ gb = true from by assumption)] at h; exact h)
            · have h := HL2.out
              first | (rw [show lb = true from by assumption] at h; exact h) | (rw [show lb = false from by simpa using (show ¬ lb = true from by assumption)] at h; exact h)
          case measure => simp [intOf]; omega
    · obtain rfl : i = nv := by omega
      by_cases hjn : j < nw
      · -- v is through
        obtain ⟨x1, y1⟩ := hw'.1 j hjn
        rw [if_pos hjn] at x1 y1
        have hjn' : (j : Int) < (nw : Int) := by omega
        have hjne : ((j : Int) == (nw : Int)) = false := by simp; omega
        have hid : decide ((i : Int) < (i : Int)) = false := by simp
        have S := step_right_end PV.out PW.out (Nat.le_refl _) hjn
        have HG2 : Hid (gM (pairs I A) (pairs J B) = ((gb || decide (B.getD j 0 < 0)) || gM ((pairs I A).drop (i)) ((pairs J B).drop (j + 1)))) := or_step HG.out S.1
        have HL2 : Hid (lM (pairs I A) (pairs J B) = ((lb || decide (0 < B.getD j 0)) || lM ((pairs I A).drop (i)) ((pairs J B).drop (j + 1)))) := or_step HL.out S.2
        clear S HG HL
        generalize J.getD j 0 = ej at *
        generalize B.getD j 0 = aj at *
        clear hv' hw' hv hw
        go_wp2
        go_quiet (fail)
        go_wp2
        go_quiet (fail)
        go_wp2
        all_goals
          go_roundw
          case rel =>
            refine ⟨i, j + 1, _, _, by omega, by omega, rfl, rfl, by first | rfl | go_num, by first | rfl | go_num, ?_, ?_, by first | exact below_drewN hb _ | exact below_drewN (below_drewN hb _) _ | exact below_drewN (below_drewN (below_drewN hb _) _) _⟩
            · have h := HG2.out
              first | (rw [show gb = true from by assumption] at h; exact h) | (rw [show gb = false from by simpa using (show ¬ gb = true from by assumption)] at h; exact h)
            · have h := HL2.out
              first | (rw [show lb = true from by assumption] at h; exact h) | (rw [show lb = false from by simpa using (show ¬ lb = true from by assumption)] at h; exact h)
          case measure => simp [intOf]; omega
      · obtain rfl : j = nw := by omega
        have EG : Hid (gM (pairs I A) (pairs J B) = gb) := by
          have h := HG.out
          rw [List.drop_of_length_le (l := pairs I A) (by rw [PV.out]; omega), List.drop_of_length_le (l := pairs J B) (by rw [PW.out]; omega)] at h
          exact h.trans (Bool.or_false gb)
        have EL : Hid (lM (pairs I A) (pairs J B) = lb) := by
          have h := HL.out
          rw [List.drop_of_length_le (l := pairs I A) (by rw [PV.out]; omega), List.drop_of_length_le (l := pairs J B) (by rw [PW.out]; omega)] at h
          exact h.trans (Bool.or_false lb)
        clear HG HL hv' hw' hv hw
        cases gb
        all_goals
          cases lb
          all_goals
            go_wp2
            go_ret
            refine ⟨?_, HB⟩
            rw [EG.out, EL.out]
            rfl

end Go.Proofs.Qxb6600515aMods
