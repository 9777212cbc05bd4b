/-
  No cell of these rows narrows 'for every input' (looked for: loops, veiled, ifaces, maps, wideKeys, modest, calm, conditions, laid).
  DERIVED. THE GIVEN ROWS OF THIS SEAT. 1 by the template 'for every input the law returns true; each argument reads behind the call as it read before'; 0 by the template 'total and deterministic' (their statements: Qxb6617476aTotals.lean).
  GIVEN WITH THE SEED: the statements are not yours to turn. If you find one false, say at which input.
  Laid BY PROGRAM, IN A SANDBOX (cutbox-rows.mjs): the forced cells as the released guide's own fill.sh prints them over the translation 80b1bf74654a1157… (all of the seat's roots in one cut). By AI agents, Wed Nov 11 2026. No macro, syntax, notation, axiom, sorry.
-/
import Derived.Test.Qxb6617476aChecked
import GoSem.Claim
import GoSem.ClaimJoined
import GoSem.ClaimMapViews
import Derived.JoinedTies
import Derived.KernelRfl
namespace Go.Proofs.Qxb6617476a
/- THE CELL 'sum', in the pinned program and in every row, IS THE sha256 OF THE DUMP (.gsa) THAT Qxb6617476aProg.lean LOADS. Nothing in Lean hashes anything: it is a label: what it is worth is what the hold of that sum in a sandbox is worth. -/
noncomputable def Try.pinned : Pinned := { name := "qxb6617476a", sum := "80b1bf74654a1157d0a02f098ec0884f53a63f717ed04d946e3f988702256d6f", checked := Try.checked }
namespace Rows
def none {H : Type} : Left H := { results := [], args := [] }

/-- 'zzlaws_internal_consistent_b1.FnSplitMix64Bijection': WHATEVER THE INPUT: true; the input reads as it did. -/
def fnSplitMix64BijectionSpec : ChangeSpec := { name := "fnSplitMix64Bijection", fn := fun _ => fun
  | [d1, d2] => { results := [.lit (.bool true)], args := [d1, d2] }
  | _ => none }
def fnSplitMix64BijectionRow : OpenClaim := { program := "qxb6617476a", sum := "80b1bf74654a1157d0a02f098ec0884f53a63f717ed04d946e3f988702256d6f", func := "example.com/bucketleap/bucketleap/zzlaws_internal_consistent_b1.FnSplitMix64Bijection", spec := "fnSplitMix64Bijection", apart := false }
def FnSplitMix64BijectionSaid : Prop := fnSplitMix64BijectionRow.holds Try.pinned (OpenSpec.ofChange fnSplitMix64BijectionSpec)

/-- ITS FALSE NEIGHBOUR: 'it returns false'. Refute it at one input. -/
def fnSplitMix64BijectionWrong : ChangeSpec := { name := "fnSplitMix64Bijection", fn := fun _ => fun
  | [d1, d2] => { results := [.lit (.bool false)], args := [d1, d2] }
  | _ => none }
def FnSplitMix64BijectionWrongFalsely : Prop := fnSplitMix64BijectionRow.holds Try.pinned (OpenSpec.ofChange fnSplitMix64BijectionWrong)

end Rows
end Go.Proofs.Qxb6617476a
