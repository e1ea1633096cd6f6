/-
  A slice of strings that came in, opened for the walks of seat b6001841aM.
-/
import Derived.Test.Qxb6001841aModsBase
import Derived.ProofKit
import Derived.ShutString
import Derived.ChangeOld
import Derived.Below
import Derived.SliceStrings
import Derived.OpenShut
namespace Go.Proofs.Qxb6001841aMods
open Go.ChangeShapes Go.WideShapes Go.ChangeAt Go.RowKit

theorem own : ownKnob Trym.prog.godebug = none := by kernel_rfl
theorem laidOut : laidOutB Trym.prog = true := by kernel_rfl

theorem strs_open {H : Type} {enc : TypeId × Value → H} {W : World} {a : Option Addr} {len cap : Nat} {d : DataW H} {p : List MemPlace} (h : DataW.Trod enc Trym.prog W 0 (fun _ => true) true 22 (.slice a len cap) d p) : ∃ ss, Strs W a len ss := by
  obtain ⟨fuel, hf⟩ := h
  rcases open_strings Trym.underlying22 Trym.underlying9 Trym.cells9 hf with ⟨hcs, _⟩ | ⟨x, l, c, ss, hcs, _, hl, hm, hz, _, hcell, hwz⟩
  · simp [Value.cells] at hcs
    obtain ⟨rfl, rfl, rfl⟩ := hcs
    exact ⟨[], rfl, .inl rfl⟩
  · simp [Value.cells] at hcs
    obtain ⟨rfl, rfl, rfl⟩ := hcs
    simp only [if_true] at hz
    refine ⟨ss.take len, by simp; omega, ?_⟩
    by_cases h0 : len = 0
    · left; simp [h0]
    · right
      obtain ⟨b, off, spot⟩ := x
      have hspot : spot = none := by simpa [Addr.add] using World.cell?_spot (hcell 0 (by omega))
      subst hspot
      refine ⟨b, off, rfl, fun i hi => ?_⟩
      simp at hi
      have := hcell i (by omega)
      rw [add_plain] at this
      rw [this]
      have hi2 : i < ss.length := by omega
      simp [hi, hi2]

end Go.Proofs.Qxb6001841aMods
