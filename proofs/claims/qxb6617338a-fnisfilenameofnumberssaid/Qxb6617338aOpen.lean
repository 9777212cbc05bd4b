import Derived.Test.Qxb6617338aNumbers
import Derived.ProofKit
import Derived.OpenShut
import Derived.ShutString
import Derived.ChangeOld
import Derived.Deep.Strs
namespace Go.Proofs.Qxb6617338a
open Go.ChangeShapes Go.WideShapes Go.ChangeAt Go.RowKit Go.Deep

theorem ownKn : ownKnob Try.prog.godebug = none := by kernel_rfl
theorem laidOut : laidOutB Try.prog = true := by kernel_rfl
theorem cells29 : Try.prog.cellsOf 29 = 3 := by kernel_rfl
theorem cells9 : Try.prog.cellsOf 9 = 1 := by kernel_rfl

/-- One range that is read. -/
theorem open_Rg {H : Type} {enc : TypeId × Value → H} {W : World} {a : Addr} {n : Nat} {y : DataW H × List MemPlace}
    (h : (W.cells? 0 a 3).bind (DataW.trod enc Try.prog W 0 (fun _ => true) true n 29) = some y) :
    ∃ r : Rg, W.cell? (a.add 0) = some (.string r.nrn) ∧ W.cell? (a.add 1) = some (.string r.first) ∧ W.cell? (a.add 2) = some (.string r.last) := by
  rw [Option.bind_eq_some_iff] at h
  obtain ⟨cs, hcs, hy⟩ := h
  obtain ⟨_, hlen, hcell⟩ := World.cells?_some hcs
  obtain ⟨y0, y1, y2, m, _, hl, h0, h1, h2⟩ := trod_struct3 Try.underlying29 hy
  match cs, hlen with
  | [x0, x1, x2], _ =>
    simp only [cells9] at h0 h1 h2
    obtain ⟨s0, e0, _, _⟩ := DataW.trod_string Try.underlying9 h0
    obtain ⟨s1, e1, _, _⟩ := DataW.trod_string Try.underlying9 h1
    obtain ⟨s2, e2, _, _⟩ := DataW.trod_string Try.underlying9 h2
    simp at e0 e1 e2
    subst e0 e1 e2
    exact ⟨⟨s0, s1, s2⟩, hcell 0 (by omega), hcell 1 (by omega), hcell 2 (by omega)⟩

/-- A slice of ranges that came in, opened. -/
theorem open_RL {H : Type} {enc : TypeId × Value → H} {W : World} {a0 : Option Addr} {len cap : Nat} {d : DataW H} {p : List MemPlace}
    (h : DataW.Trod enc Try.prog W 0 (fun _ => true) true 22 (.slice a0 len cap) d p) : ∃ rs, RL W (.slice a0 len cap) rs := by
  obtain ⟨fuel, hf⟩ := h
  rcases DataW.trod_slice Try.underlying22 hf with ⟨hcs, _⟩ | ⟨a, l, c, elems, rest, n, _, hcs, _, _, hl, hm, hlen, hel, _, _⟩
  · simp [Value.cells] at hcs
    obtain ⟨rfl, rfl, rfl⟩ := hcs
    exact ⟨[], .inl ⟨rfl, rfl⟩⟩
  · simp [Value.cells] at hcs
    obtain ⟨rfl, rfl, rfl⟩ := hcs
    have each : ∀ i, i < len → ∃ r : Rg, W.cell? ((a.add (i * 3)).add 0) = some (.string r.nrn) ∧ W.cell? ((a.add (i * 3)).add 1) = some (.string r.first) ∧ W.cell? ((a.add (i * 3)).add 2) = some (.string r.last) := by
      intro i hi
      have h1 := hel i hi
      rw [cells29, List.getElem?_eq_getElem (by omega)] at h1
      exact open_Rg h1
    haveI : Inhabited Rg := ⟨Rg.none⟩
    obtain ⟨f, hf⟩ := choose_lt each
    have e : ((List.range len).map f).length = len := by simp
    obtain ⟨b, off, spot⟩ := a
    have hspot : 0 < len → spot = none := fun h0 => by
      have h1 := (hf 0 h0).1
      rw [Nat.zero_mul, Deep.add_add, Nat.add_zero] at h1
      simpa [Addr.add] using World.cell?_spot h1
    refine ⟨(List.range len).map f, .inr ⟨b, off, spot, cap, by rw [e], by omega, hm, fun h0 => hspot (by omega), fun i hi => ?_⟩⟩
    rw [e] at hi
    obtain rfl := hspot (by omega)
    have hg : ((List.range len).map f).getD i Rg.none = f i := by simp [List.getD, hi]
    rw [hg]
    obtain ⟨h0, h1, h2⟩ := hf i hi
    rw [Deep.add_add, Addr.add_lit] at h0 h1 h2
    exact ⟨h0, by rw [Nat.add_assoc]; exact h1, by rw [Nat.add_assoc]; exact h2⟩

end Go.Proofs.Qxb6617338a
