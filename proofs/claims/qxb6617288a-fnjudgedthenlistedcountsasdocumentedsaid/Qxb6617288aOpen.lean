import Derived.Test.Qxb6617288aBase
import Derived.ProofKit
import Derived.OpenShut
import Derived.ShutString
import Derived.ChangeOld
import Derived.SliceStrings
namespace Go.Proofs.Qxb6617288a
open Go.ChangeShapes Go.WideShapes Go.ChangeAt Go.RowKit

theorem own : ownKnob Try.prog.godebug = none := by kernel_rfl
theorem laidOut : laidOutB Try.prog = true := by kernel_rfl

/-- A slice of strings that came in, opened. -/
theorem open_SL {H : Type} {enc : TypeId × Value → H} {W : World} {a0 : Option Addr} {len cap : Nat} {d : DataW H} {p : List MemPlace}
    (h : DataW.Trod enc Try.prog W 0 (fun _ => true) true 22 (.slice a0 len cap) d p) : ∃ nl ss, SL W nl (.slice a0 len cap) ss := by
  obtain ⟨fuel, hf⟩ := h
  rcases open_strings Try.underlying22 Try.underlying9 (by kernel_rfl) hf with ⟨hcs, _⟩ | ⟨x, l, c, ss, hcs, _, hl, hm, hz, _, hcell, _⟩
  · simp [Value.cells] at hcs
    obtain ⟨rfl, rfl, rfl⟩ := hcs
    exact ⟨true, [], rfl, rfl⟩
  · simp [Value.cells] at hcs
    obtain ⟨rfl, rfl, rfl⟩ := hcs
    simp at hz
    have e : (ss.take len).length = len := by simp; omega
    obtain ⟨b, off, spot⟩ := x
    refine ⟨false, ss.take len, b, off, spot, cap, by rw [e], by omega, hm, fun h0 => ?_, fun i hi => ?_⟩
    · simpa [Addr.add] using World.cell?_spot (hcell 0 (by omega))
    · have hc := hcell i (by omega)
      have hspot : spot = none := by simpa [Addr.add] using World.cell?_spot (hcell 0 (by omega))
      subst hspot
      rw [e] at hi
      rw [Addr.add_lit] at hc
      rw [hc]
      simp [List.getD, hi]

end Go.Proofs.Qxb6617288a
