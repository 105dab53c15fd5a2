/-
  No cell of these rows narrows 'for every input' (looked for: loops, veiled, ifaces, maps, wideKeys, modest, calm, conditions, laid).
  DERIVED. THE GIVEN ROWS OF THIS SEAT. 2 by the template 'for every input the law returns true; each argument reads behind the call as it read before'; 0 by the template 'total and deterministic' (their statements: Qxb6626345aTotals.lean).
  GIVEN WITH THE SEED: the statements are not yours to turn. If you find one false, say at which input.
  Laid BY PROGRAM, IN A SANDBOX (cutbox-rows.mjs): the forced cells as the released guide's own fill.sh prints them over the translation 0afc5dc8ae2006e6… (all of the seat's roots in one cut). By AI agents, Wed Nov 11 2026. No macro, syntax, notation, axiom, sorry.
-/
import Derived.Test.Qxb6626345aChecked
import GoSem.Claim
import GoSem.ClaimJoined
import GoSem.ClaimMapViews
import Derived.JoinedTies
import Derived.KernelRfl
namespace Go.Proofs.Qxb6626345a
/- THE CELL 'sum', in the pinned program and in every row, IS THE sha256 OF THE DUMP (.gsa) THAT Qxb6626345aProg.lean LOADS. Nothing in Lean hashes anything: it is a label: what it is worth is what the hold of that sum in a sandbox is worth. -/
noncomputable def Try.pinned : Pinned := { name := "qxb6626345a", sum := "0afc5dc8ae2006e63dccff0e9af53af89a60c111444d050a0e4145222f2e0bf1", checked := Try.checked }
namespace Rows
def none {H : Type} : Left H := { results := [], args := [] }

/-- 'zzlaws_internal_jsonscan_b1.FnLiteralShiftAgreesWithFirstByteModel': WHATEVER THE INPUT: true; the input reads as it did. -/
def fnLiteralShiftAgreesWithFirstByteModelSpec : ChangeSpec := { name := "fnLiteralShiftAgreesWithFirstByteModel", fn := fun _ => fun
  | [d1, d2, d3] => { results := [.lit (.bool true)], args := [d1, d2, d3] }
  | _ => none }
def fnLiteralShiftAgreesWithFirstByteModelRow : OpenClaim := { program := "qxb6626345a", sum := "0afc5dc8ae2006e63dccff0e9af53af89a60c111444d050a0e4145222f2e0bf1", func := "example.com/semantic-reply-cache/semantic-reply-cache/zzlaws_internal_jsonscan_b1.FnLiteralShiftAgreesWithFirstByteModel", spec := "fnLiteralShiftAgreesWithFirstByteModel", apart := false }
def FnLiteralShiftAgreesWithFirstByteModelSaid : Prop := fnLiteralShiftAgreesWithFirstByteModelRow.holds Try.pinned (OpenSpec.ofChange fnLiteralShiftAgreesWithFirstByteModelSpec)

/-- ITS FALSE NEIGHBOUR: 'it returns false'. Refute it at one input. -/
def fnLiteralShiftAgreesWithFirstByteModelWrong : ChangeSpec := { name := "fnLiteralShiftAgreesWithFirstByteModel", fn := fun _ => fun
  | [d1, d2, d3] => { results := [.lit (.bool false)], args := [d1, d2, d3] }
  | _ => none }
def FnLiteralShiftAgreesWithFirstByteModelWrongFalsely : Prop := fnLiteralShiftAgreesWithFirstByteModelRow.holds Try.pinned (OpenSpec.ofChange fnLiteralShiftAgreesWithFirstByteModelWrong)

/-- 'zzlaws_internal_jsonscan_b1.FnLiteralRunReachesGreedyEnd': WHATEVER THE INPUT: true; the input reads as it did. -/
def fnLiteralRunReachesGreedyEndSpec : ChangeSpec := { name := "fnLiteralRunReachesGreedyEnd", fn := fun _ => fun
  | [d1, d2] => { results := [.lit (.bool true)], args := [d1, d2] }
  | _ => none }
def fnLiteralRunReachesGreedyEndRow : OpenClaim := { program := "qxb6626345a", sum := "0afc5dc8ae2006e63dccff0e9af53af89a60c111444d050a0e4145222f2e0bf1", func := "example.com/semantic-reply-cache/semantic-reply-cache/zzlaws_internal_jsonscan_b1.FnLiteralRunReachesGreedyEnd", spec := "fnLiteralRunReachesGreedyEnd", apart := false }
def FnLiteralRunReachesGreedyEndSaid : Prop := fnLiteralRunReachesGreedyEndRow.holds Try.pinned (OpenSpec.ofChange fnLiteralRunReachesGreedyEndSpec)

/-- ITS FALSE NEIGHBOUR: 'it returns false'. Refute it at one input. -/
def fnLiteralRunReachesGreedyEndWrong : ChangeSpec := { name := "fnLiteralRunReachesGreedyEnd", fn := fun _ => fun
  | [d1, d2] => { results := [.lit (.bool false)], args := [d1, d2] }
  | _ => none }
def FnLiteralRunReachesGreedyEndWrongFalsely : Prop := fnLiteralRunReachesGreedyEndRow.holds Try.pinned (OpenSpec.ofChange fnLiteralRunReachesGreedyEndWrong)

end Rows
end Go.Proofs.Qxb6626345a
