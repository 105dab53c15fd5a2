/-
  No cell of these rows narrows 'for every input' (looked for: loops, veiled, ifaces, maps, wideKeys, modest, calm, conditions, laid).
  DERIVED. THE GIVEN ROWS OF THIS SEAT. 2 by the template 'for every input the law returns true; each argument reads behind the call as it read before'; 0 by the template 'total and deterministic' (their statements: Qxb6626217aTotals.lean).
  GIVEN WITH THE SEED: the statements are not yours to turn. If you find one false, say at which input.
  Laid BY PROGRAM, IN A SANDBOX (cutbox-rows.mjs): the forced cells as the released guide's own fill.sh prints them over the translation c929bde0b9601db4… (all of the seat's roots in one cut). By AI agents, Wed Nov 11 2026. No macro, syntax, notation, axiom, sorry.
-/
import Derived.Test.Qxb6626217aChecked
import GoSem.Claim
import GoSem.ClaimJoined
import GoSem.ClaimMapViews
import Derived.JoinedTies
import Derived.KernelRfl
namespace Go.Proofs.Qxb6626217a
/- THE CELL 'sum', in the pinned program and in every row, IS THE sha256 OF THE DUMP (.gsa) THAT Qxb6626217aProg.lean LOADS. Nothing in Lean hashes anything: it is a label: what it is worth is what the hold of that sum in a sandbox is worth. -/
noncomputable def Try.pinned : Pinned := { name := "qxb6626217a", sum := "c929bde0b9601db4127552290609cdfa6877f5e29638bbb6cb3d2727f39bb5e6", checked := Try.checked }
namespace Rows
def none {H : Type} : Left H := { results := [], args := [] }

/-- 'zzlaws_root_b1.FnMergeIsUnionKeepingLatest': WHATEVER THE INPUT: true; the input reads as it did. -/
def fnMergeIsUnionKeepingLatestSpec : ChangeSpec := { name := "fnMergeIsUnionKeepingLatest", fn := fun _ => fun
  | [d1, d2, d3, d4] => { results := [.lit (.bool true)], args := [d1, d2, d3, d4] }
  | _ => none }
def fnMergeIsUnionKeepingLatestRow : OpenClaim := { program := "qxb6626217a", sum := "c929bde0b9601db4127552290609cdfa6877f5e29638bbb6cb3d2727f39bb5e6", func := "example.com/priorwire/priorwire/zzlaws_root_b1.FnMergeIsUnionKeepingLatest", spec := "fnMergeIsUnionKeepingLatest", apart := false }
def FnMergeIsUnionKeepingLatestSaid : Prop := fnMergeIsUnionKeepingLatestRow.holds Try.pinned (OpenSpec.ofChange fnMergeIsUnionKeepingLatestSpec)

/-- ITS FALSE NEIGHBOUR: 'it returns false'. Refute it at one input. -/
def fnMergeIsUnionKeepingLatestWrong : ChangeSpec := { name := "fnMergeIsUnionKeepingLatest", fn := fun _ => fun
  | [d1, d2, d3, d4] => { results := [.lit (.bool false)], args := [d1, d2, d3, d4] }
  | _ => none }
def FnMergeIsUnionKeepingLatestWrongFalsely : Prop := fnMergeIsUnionKeepingLatestRow.holds Try.pinned (OpenSpec.ofChange fnMergeIsUnionKeepingLatestWrong)

/-- 'zzlaws_root_b1.FnMergeOrderFreeIdempotentOtherKept': WHATEVER THE INPUT: true; the input reads as it did. -/
def fnMergeOrderFreeIdempotentOtherKeptSpec : ChangeSpec := { name := "fnMergeOrderFreeIdempotentOtherKept", fn := fun _ => fun
  | [d1, d2, d3, d4] => { results := [.lit (.bool true)], args := [d1, d2, d3, d4] }
  | _ => none }
def fnMergeOrderFreeIdempotentOtherKeptRow : OpenClaim := { program := "qxb6626217a", sum := "c929bde0b9601db4127552290609cdfa6877f5e29638bbb6cb3d2727f39bb5e6", func := "example.com/priorwire/priorwire/zzlaws_root_b1.FnMergeOrderFreeIdempotentOtherKept", spec := "fnMergeOrderFreeIdempotentOtherKept", apart := false }
def FnMergeOrderFreeIdempotentOtherKeptSaid : Prop := fnMergeOrderFreeIdempotentOtherKeptRow.holds Try.pinned (OpenSpec.ofChange fnMergeOrderFreeIdempotentOtherKeptSpec)

/-- ITS FALSE NEIGHBOUR: 'it returns false'. Refute it at one input. -/
def fnMergeOrderFreeIdempotentOtherKeptWrong : ChangeSpec := { name := "fnMergeOrderFreeIdempotentOtherKept", fn := fun _ => fun
  | [d1, d2, d3, d4] => { results := [.lit (.bool false)], args := [d1, d2, d3, d4] }
  | _ => none }
def FnMergeOrderFreeIdempotentOtherKeptWrongFalsely : Prop := fnMergeOrderFreeIdempotentOtherKeptRow.holds Try.pinned (OpenSpec.ofChange fnMergeOrderFreeIdempotentOtherKeptWrong)

end Rows
end Go.Proofs.Qxb6626217a
