/-
  No cell of these rows narrows 'for every input' (looked for: loops, veiled, ifaces, maps, wideKeys, modest, calm, conditions, laid).
  DERIVED. THE GIVEN ROWS OF THIS SEAT. 2 by the template 'for every input the law returns true; each argument reads behind the call as it read before'; 0 by the template 'total and deterministic' (their statements: Qxb6626309aTotals.lean).
  GIVEN WITH THE SEED: the statements are not yours to turn. If you find one false, say at which input.
  Laid BY PROGRAM, IN A SANDBOX (cutbox-rows.mjs): the forced cells as the released guide's own fill.sh prints them over the translation ae8c271c977fe24f… (all of the seat's roots in one cut). By AI agents, Wed Nov 11 2026. No macro, syntax, notation, axiom, sorry.
-/
import Derived.Test.Qxb6626309aChecked
import GoSem.Claim
import GoSem.ClaimJoined
import GoSem.ClaimMapViews
import Derived.JoinedTies
import Derived.KernelRfl
namespace Go.Proofs.Qxb6626309a
/- THE CELL 'sum', in the pinned program and in every row, IS THE sha256 OF THE DUMP (.gsa) THAT Qxb6626309aProg.lean LOADS. Nothing in Lean hashes anything: it is a label: what it is worth is what the hold of that sum in a sandbox is worth. -/
noncomputable def Try.pinned : Pinned := { name := "qxb6626309a", sum := "ae8c271c977fe24ffabd64b88a6b8fedc460b70e2b3407a659e6037039790a0e", checked := Try.checked }
namespace Rows
def none {H : Type} : Left H := { results := [], args := [] }

/-- 'zzlaws_internal_gossip_b1.FnHeldAddScriptMatchesSortedSet': WHATEVER THE INPUT: true; the input reads as it did. -/
def fnHeldAddScriptMatchesSortedSetSpec : ChangeSpec := { name := "fnHeldAddScriptMatchesSortedSet", fn := fun _ => fun
  | [d] => { results := [.lit (.bool true)], args := [d] }
  | _ => none }
def fnHeldAddScriptMatchesSortedSetRow : OpenClaim := { program := "qxb6626309a", sum := "ae8c271c977fe24ffabd64b88a6b8fedc460b70e2b3407a659e6037039790a0e", func := "example.com/rumorwall/rumorwall/zzlaws_internal_gossip_b1.FnHeldAddScriptMatchesSortedSet", spec := "fnHeldAddScriptMatchesSortedSet", inPlace := ["slices.overlaps[example.com/rumorwall/rumorwall/internal/gossip.Range]"], apart := false }
def FnHeldAddScriptMatchesSortedSetSaid : Prop := fnHeldAddScriptMatchesSortedSetRow.holds Try.pinned (OpenSpec.ofChange fnHeldAddScriptMatchesSortedSetSpec)

/-- ITS FALSE NEIGHBOUR: 'it returns false'. Refute it at one input. -/
def fnHeldAddScriptMatchesSortedSetWrong : ChangeSpec := { name := "fnHeldAddScriptMatchesSortedSet", fn := fun _ => fun
  | [d] => { results := [.lit (.bool false)], args := [d] }
  | _ => none }
def FnHeldAddScriptMatchesSortedSetWrongFalsely : Prop := fnHeldAddScriptMatchesSortedSetRow.holds Try.pinned (OpenSpec.ofChange fnHeldAddScriptMatchesSortedSetWrong)

/-- 'zzlaws_internal_gossip_b1.FnHeldAddOrderFreeAndHoldsAgrees': WHATEVER THE INPUT: true; the input reads as it did. -/
def fnHeldAddOrderFreeAndHoldsAgreesSpec : ChangeSpec := { name := "fnHeldAddOrderFreeAndHoldsAgrees", fn := fun _ => fun
  | [d1, d2] => { results := [.lit (.bool true)], args := [d1, d2] }
  | _ => none }
def fnHeldAddOrderFreeAndHoldsAgreesRow : OpenClaim := { program := "qxb6626309a", sum := "ae8c271c977fe24ffabd64b88a6b8fedc460b70e2b3407a659e6037039790a0e", func := "example.com/rumorwall/rumorwall/zzlaws_internal_gossip_b1.FnHeldAddOrderFreeAndHoldsAgrees", spec := "fnHeldAddOrderFreeAndHoldsAgrees", inPlace := ["slices.overlaps[example.com/rumorwall/rumorwall/internal/gossip.Range]"], apart := false }
def FnHeldAddOrderFreeAndHoldsAgreesSaid : Prop := fnHeldAddOrderFreeAndHoldsAgreesRow.holds Try.pinned (OpenSpec.ofChange fnHeldAddOrderFreeAndHoldsAgreesSpec)

/-- ITS FALSE NEIGHBOUR: 'it returns false'. Refute it at one input. -/
def fnHeldAddOrderFreeAndHoldsAgreesWrong : ChangeSpec := { name := "fnHeldAddOrderFreeAndHoldsAgrees", fn := fun _ => fun
  | [d1, d2] => { results := [.lit (.bool false)], args := [d1, d2] }
  | _ => none }
def FnHeldAddOrderFreeAndHoldsAgreesWrongFalsely : Prop := fnHeldAddOrderFreeAndHoldsAgreesRow.holds Try.pinned (OpenSpec.ofChange fnHeldAddOrderFreeAndHoldsAgreesWrong)

end Rows
end Go.Proofs.Qxb6626309a
