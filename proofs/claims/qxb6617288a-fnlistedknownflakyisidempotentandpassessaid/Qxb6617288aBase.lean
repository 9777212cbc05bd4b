import Derived.Test.Qxb6617288aRows
import Derived.WalkKit
import Derived.WalkSpells
import Derived.WalkLawsBesides
namespace Go.Proofs.Qxb6617288a
open Go.RowKit

/-- A slice that is not nil reads as the strings ss. -/
def SN (w : World) (v : Value) (ss : List ByteArray) : Prop :=
  ∃ b off spot cap, v = .slice (some ⟨b, off, spot⟩) ss.length cap ∧ ss.length ≤ cap ∧ cap ≤ maxLen ∧ (0 < ss.length → spot = none) ∧
    (∀ i, i < ss.length → w.cell? ⟨b, off + i, none⟩ = some (.string (ss.getD i ByteArray.empty)))

/-- THE SLICE VALUE v READS, IN THE WORLD w, AS THE STRINGS ss; nl: is it nil? -/
def SL (w : World) : Bool → Value → List ByteArray → Prop
  | true, v, ss => v = .slice none 0 0 ∧ ss = []
  | false, v, ss => SN w v ss

theorem SL.later {w w' : World} {nl : Bool} {v : Value} {ss : List ByteArray} (h : SL w nl v ss) (hb : Below w.heap.size w w') : SL w' nl v ss := by
  cases nl with
  | true => exact h
  | false =>
    obtain ⟨b, off, spot, cap, h1, h2, h3, h4, h5⟩ := h
    exact ⟨b, off, spot, cap, h1, h2, h3, h4, fun i hi => cell_later hb (h5 i hi)⟩

theorem SL.len {w : World} {nl : Bool} {v : Value} {ss : List ByteArray} (h : SL w nl v ss) : ∃ a c, v = .slice a ss.length c ∧ ss.length ≤ maxLen ∧ (a.isNone = nl) := by
  cases nl with
  | true => obtain ⟨rfl, rfl⟩ := h; exact ⟨none, 0, rfl, by simp, rfl⟩
  | false =>
    obtain ⟨b, off, spot, cap, h1, h2, h3, h4, h5⟩ := h
    exact ⟨_, _, h1, by omega, rfl⟩

/-- Laid behind a name. -/
theorem hide {p : Prop} (h : p) : Hid p := h

/-- The call ended by returning a bool. -/
def IsBool (e : Ending) : Prop := ∃ r, e = .returned (.bool r)

end Go.Proofs.Qxb6617288a
