/-
  No cell of these rows narrows 'for every input' (looked for: loops, veiled, ifaces, maps, wideKeys, modest, calm, conditions, laid).
  DERIVED. THE GIVEN ROWS OF THIS SEAT. 3 by the template 'for every input the law returns true; each argument reads behind the call as it read before'; 0 by the template 'total and deterministic' (their statements: Qxb6617288aTotals.lean).
  GIVEN WITH THE SEED: the statements are not yours to turn. If you find one false, say at which input.
  Laid BY PROGRAM, IN A SANDBOX (cutbox-rows.mjs): the forced cells as the released guide's own fill.sh prints them over the translation 201247bc39259820… (all of the seat's roots in one cut). By AI agents, Wed Nov 11 2026. No macro, syntax, notation, axiom, sorry.
-/
import Derived.Test.Qxb6617288aChecked
import GoSem.Claim
import GoSem.ClaimJoined
import GoSem.ClaimMapViews
import Derived.JoinedTies
import Derived.KernelRfl
namespace Go.Proofs.Qxb6617288a
/- THE CELL 'sum', in the pinned program and in every row, IS THE sha256 OF THE DUMP (.gsa) THAT Qxb6617288aProg.lean LOADS. Nothing in Lean hashes anything: it is a label: what it is worth is what the hold of that sum in a sandbox is worth. -/
noncomputable def Try.pinned : Pinned := { name := "qxb6617288a", sum := "201247bc3925982066ec45bf3c0e8dc4cc70c2e0098f23599b91b2f9853f217c", checked := Try.checked }
namespace Rows
def none {H : Type} : Left H := { results := [], args := [] }

/-- 'zzlaws_internal_report_b1.FnListedKnownFailingTwiceRestoresStatus': WHATEVER THE INPUT: true; the input reads as it did. -/
def fnListedKnownFailingTwiceRestoresStatusSpec : ChangeSpec := { name := "fnListedKnownFailingTwiceRestoresStatus", fn := fun _ => fun
  | [d1, d2, d3] => { results := [.lit (.bool true)], args := [d1, d2, d3] }
  | _ => none }
def fnListedKnownFailingTwiceRestoresStatusRow : OpenClaim := { program := "qxb6617288a", sum := "201247bc3925982066ec45bf3c0e8dc4cc70c2e0098f23599b91b2f9853f217c", func := "example.com/wireproof/wireproof/zzlaws_internal_report_b1.FnListedKnownFailingTwiceRestoresStatus", spec := "fnListedKnownFailingTwiceRestoresStatus", apart := false }
def FnListedKnownFailingTwiceRestoresStatusSaid : Prop := fnListedKnownFailingTwiceRestoresStatusRow.holds Try.pinned (OpenSpec.ofChange fnListedKnownFailingTwiceRestoresStatusSpec)

/-- ITS FALSE NEIGHBOUR: 'it returns false'. Refute it at one input. -/
def fnListedKnownFailingTwiceRestoresStatusWrong : ChangeSpec := { name := "fnListedKnownFailingTwiceRestoresStatus", fn := fun _ => fun
  | [d1, d2, d3] => { results := [.lit (.bool false)], args := [d1, d2, d3] }
  | _ => none }
def FnListedKnownFailingTwiceRestoresStatusWrongFalsely : Prop := fnListedKnownFailingTwiceRestoresStatusRow.holds Try.pinned (OpenSpec.ofChange fnListedKnownFailingTwiceRestoresStatusWrong)

/-- 'zzlaws_internal_report_b1.FnListedKnownFlakyIsIdempotentAndPasses': WHATEVER THE INPUT: true; the input reads as it did. -/
def fnListedKnownFlakyIsIdempotentAndPassesSpec : ChangeSpec := { name := "fnListedKnownFlakyIsIdempotentAndPasses", fn := fun _ => fun
  | [d1, d2, d3] => { results := [.lit (.bool true)], args := [d1, d2, d3] }
  | _ => none }
def fnListedKnownFlakyIsIdempotentAndPassesRow : OpenClaim := { program := "qxb6617288a", sum := "201247bc3925982066ec45bf3c0e8dc4cc70c2e0098f23599b91b2f9853f217c", func := "example.com/wireproof/wireproof/zzlaws_internal_report_b1.FnListedKnownFlakyIsIdempotentAndPasses", spec := "fnListedKnownFlakyIsIdempotentAndPasses", apart := false }
def FnListedKnownFlakyIsIdempotentAndPassesSaid : Prop := fnListedKnownFlakyIsIdempotentAndPassesRow.holds Try.pinned (OpenSpec.ofChange fnListedKnownFlakyIsIdempotentAndPassesSpec)

/-- ITS FALSE NEIGHBOUR: 'it returns false'. Refute it at one input. -/
def fnListedKnownFlakyIsIdempotentAndPassesWrong : ChangeSpec := { name := "fnListedKnownFlakyIsIdempotentAndPasses", fn := fun _ => fun
  | [d1, d2, d3] => { results := [.lit (.bool false)], args := [d1, d2, d3] }
  | _ => none }
def FnListedKnownFlakyIsIdempotentAndPassesWrongFalsely : Prop := fnListedKnownFlakyIsIdempotentAndPassesRow.holds Try.pinned (OpenSpec.ofChange fnListedKnownFlakyIsIdempotentAndPassesWrong)

/-- 'zzlaws_internal_report_b1.FnJudgedThenListedCountsAsDocumented': WHATEVER THE INPUT: true; the input reads as it did. -/
def fnJudgedThenListedCountsAsDocumentedSpec : ChangeSpec := { name := "fnJudgedThenListedCountsAsDocumented", fn := fun _ => fun
  | [d1, d2, d3] => { results := [.lit (.bool true)], args := [d1, d2, d3] }
  | _ => none }
def fnJudgedThenListedCountsAsDocumentedRow : OpenClaim := { program := "qxb6617288a", sum := "201247bc3925982066ec45bf3c0e8dc4cc70c2e0098f23599b91b2f9853f217c", func := "example.com/wireproof/wireproof/zzlaws_internal_report_b1.FnJudgedThenListedCountsAsDocumented", spec := "fnJudgedThenListedCountsAsDocumented", apart := false }
def FnJudgedThenListedCountsAsDocumentedSaid : Prop := fnJudgedThenListedCountsAsDocumentedRow.holds Try.pinned (OpenSpec.ofChange fnJudgedThenListedCountsAsDocumentedSpec)

/-- ITS FALSE NEIGHBOUR: 'it returns false'. Refute it at one input. -/
def fnJudgedThenListedCountsAsDocumentedWrong : ChangeSpec := { name := "fnJudgedThenListedCountsAsDocumented", fn := fun _ => fun
  | [d1, d2, d3] => { results := [.lit (.bool false)], args := [d1, d2, d3] }
  | _ => none }
def FnJudgedThenListedCountsAsDocumentedWrongFalsely : Prop := fnJudgedThenListedCountsAsDocumentedRow.holds Try.pinned (OpenSpec.ofChange fnJudgedThenListedCountsAsDocumentedWrong)

end Rows
end Go.Proofs.Qxb6617288a
