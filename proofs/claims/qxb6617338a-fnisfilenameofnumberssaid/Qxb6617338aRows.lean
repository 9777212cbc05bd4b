/-
  No cell of these rows narrows 'for every input' (looked for: loops, veiled, ifaces, maps, wideKeys, modest, calm, conditions, laid).
  DERIVED. THE GIVEN ROWS OF THIS SEAT. 4 by the template 'for every input the law returns true; each argument reads behind the call as it read before'; 0 by the template 'total and deterministic' (their statements: Qxb6617338aTotals.lean).
  GIVEN WITH THE SEED: the statements are not yours to turn. If you find one false, say at which input.
  Laid BY PROGRAM, IN A SANDBOX (cutbox-rows.mjs): the forced cells as the released guide's own fill.sh prints them over the translation 2ab304613a21b03f… (all of the seat's roots in one cut). By AI agents, Wed Nov 11 2026. No macro, syntax, notation, axiom, sorry.
-/
import Derived.Test.Qxb6617338aChecked
import GoSem.Claim
import GoSem.ClaimJoined
import GoSem.ClaimMapViews
import Derived.JoinedTies
import Derived.KernelRfl
namespace Go.Proofs.Qxb6617338a
/- THE CELL 'sum', in the pinned program and in every row, IS THE sha256 OF THE DUMP (.gsa) THAT Qxb6617338aProg.lean LOADS. Nothing in Lean hashes anything: it is a label: what it is worth is what the hold of that sum in a sandbox is worth. -/
noncomputable def Try.pinned : Pinned := { name := "qxb6617338a", sum := "2ab304613a21b03f04a33078329765ea9dfc9cdcf3187b67554a5e1735bdb0a1", checked := Try.checked }
namespace Rows
def none {H : Type} : Left H := { results := [], args := [] }

/-- 'zzlaws_internal_server_b1.FnNumbersJoinAtAnyCut': WHATEVER THE INPUT: true; the input reads as it did. -/
def fnNumbersJoinAtAnyCutSpec : ChangeSpec := { name := "fnNumbersJoinAtAnyCut", fn := fun _ => fun
  | [d1, d2] => { results := [.lit (.bool true)], args := [d1, d2] }
  | _ => none }
def fnNumbersJoinAtAnyCutRow : OpenClaim := { program := "qxb6617338a", sum := "2ab304613a21b03f04a33078329765ea9dfc9cdcf3187b67554a5e1735bdb0a1", func := "example.com/portaclear/portaclear/zzlaws_internal_server_b1.FnNumbersJoinAtAnyCut", spec := "fnNumbersJoinAtAnyCut", inPlace := ["internal/abi.NoEscape"], apart := false }
def FnNumbersJoinAtAnyCutSaid : Prop := fnNumbersJoinAtAnyCutRow.holds Try.pinned (OpenSpec.ofChange fnNumbersJoinAtAnyCutSpec)

/-- ITS FALSE NEIGHBOUR: 'it returns false'. Refute it at one input. -/
def fnNumbersJoinAtAnyCutWrong : ChangeSpec := { name := "fnNumbersJoinAtAnyCut", fn := fun _ => fun
  | [d1, d2] => { results := [.lit (.bool false)], args := [d1, d2] }
  | _ => none }
def FnNumbersJoinAtAnyCutWrongFalsely : Prop := fnNumbersJoinAtAnyCutRow.holds Try.pinned (OpenSpec.ofChange fnNumbersJoinAtAnyCutWrong)

/-- 'zzlaws_internal_server_b1.FnNumbersReadBack': WHATEVER THE INPUT: true; the input reads as it did. -/
def fnNumbersReadBackSpec : ChangeSpec := { name := "fnNumbersReadBack", fn := fun _ => fun
  | [d] => { results := [.lit (.bool true)], args := [d] }
  | _ => none }
def fnNumbersReadBackRow : OpenClaim := { program := "qxb6617338a", sum := "2ab304613a21b03f04a33078329765ea9dfc9cdcf3187b67554a5e1735bdb0a1", func := "example.com/portaclear/portaclear/zzlaws_internal_server_b1.FnNumbersReadBack", spec := "fnNumbersReadBack", inPlace := ["internal/abi.NoEscape"], apart := false }
def FnNumbersReadBackSaid : Prop := fnNumbersReadBackRow.holds Try.pinned (OpenSpec.ofChange fnNumbersReadBackSpec)

/-- ITS FALSE NEIGHBOUR: 'it returns false'. Refute it at one input. -/
def fnNumbersReadBackWrong : ChangeSpec := { name := "fnNumbersReadBack", fn := fun _ => fun
  | [d] => { results := [.lit (.bool false)], args := [d] }
  | _ => none }
def FnNumbersReadBackWrongFalsely : Prop := fnNumbersReadBackRow.holds Try.pinned (OpenSpec.ofChange fnNumbersReadBackWrong)

/-- 'zzlaws_internal_server_b1.FnIsFileNameCutRepairAndDot': WHATEVER THE INPUT: true; the input reads as it did. -/
def fnIsFileNameCutRepairAndDotSpec : ChangeSpec := { name := "fnIsFileNameCutRepairAndDot", fn := fun _ => fun
  | [d1, d2] => { results := [.lit (.bool true)], args := [d1, d2] }
  | _ => none }
def fnIsFileNameCutRepairAndDotRow : OpenClaim := { program := "qxb6617338a", sum := "2ab304613a21b03f04a33078329765ea9dfc9cdcf3187b67554a5e1735bdb0a1", func := "example.com/portaclear/portaclear/zzlaws_internal_server_b1.FnIsFileNameCutRepairAndDot", spec := "fnIsFileNameCutRepairAndDot", apart := false }
def FnIsFileNameCutRepairAndDotSaid : Prop := fnIsFileNameCutRepairAndDotRow.holds Try.pinned (OpenSpec.ofChange fnIsFileNameCutRepairAndDotSpec)

/-- ITS FALSE NEIGHBOUR: 'it returns false'. Refute it at one input. -/
def fnIsFileNameCutRepairAndDotWrong : ChangeSpec := { name := "fnIsFileNameCutRepairAndDot", fn := fun _ => fun
  | [d1, d2] => { results := [.lit (.bool false)], args := [d1, d2] }
  | _ => none }
def FnIsFileNameCutRepairAndDotWrongFalsely : Prop := fnIsFileNameCutRepairAndDotRow.holds Try.pinned (OpenSpec.ofChange fnIsFileNameCutRepairAndDotWrong)

/-- 'zzlaws_internal_server_b1.FnIsFileNameOfNumbers': WHATEVER THE INPUT: true; the input reads as it did. -/
def fnIsFileNameOfNumbersSpec : ChangeSpec := { name := "fnIsFileNameOfNumbers", fn := fun _ => fun
  | [d] => { results := [.lit (.bool true)], args := [d] }
  | _ => none }
def fnIsFileNameOfNumbersRow : OpenClaim := { program := "qxb6617338a", sum := "2ab304613a21b03f04a33078329765ea9dfc9cdcf3187b67554a5e1735bdb0a1", func := "example.com/portaclear/portaclear/zzlaws_internal_server_b1.FnIsFileNameOfNumbers", spec := "fnIsFileNameOfNumbers", inPlace := ["internal/abi.NoEscape"], apart := false }
def FnIsFileNameOfNumbersSaid : Prop := fnIsFileNameOfNumbersRow.holds Try.pinned (OpenSpec.ofChange fnIsFileNameOfNumbersSpec)

/-- ITS FALSE NEIGHBOUR: 'it returns false'. Refute it at one input. -/
def fnIsFileNameOfNumbersWrong : ChangeSpec := { name := "fnIsFileNameOfNumbers", fn := fun _ => fun
  | [d] => { results := [.lit (.bool false)], args := [d] }
  | _ => none }
def FnIsFileNameOfNumbersWrongFalsely : Prop := fnIsFileNameOfNumbersRow.holds Try.pinned (OpenSpec.ofChange fnIsFileNameOfNumbersWrong)

end Rows
end Go.Proofs.Qxb6617338a
