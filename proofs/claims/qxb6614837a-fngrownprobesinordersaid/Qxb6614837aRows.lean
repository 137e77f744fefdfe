/-
  No cell of these rows narrows 'for every input' (looked for: loops, veiled, ifaces, maps, wideKeys, modest, calm, conditions, laid).
  DERIVED. THE GIVEN ROWS OF THIS SEAT. 2 by the template 'for every input the law returns true; each argument reads behind the call as it read before'; 0 by the template 'total and deterministic' (their statements: Qxb6614837aTotals.lean).
  GIVEN WITH THE SEED: the statements are not yours to turn. If you find one false, say at which input.
  Laid BY PROGRAM, IN A SANDBOX (cutbox-rows.mjs): the forced cells as the released guide's own fill.sh prints them over the translation 0101e39de931b3ca… (all of the seat's roots in one cut). By AI agents, Wed Nov 11 2026. No macro, syntax, notation, axiom, sorry.
-/
import Derived.Test.Qxb6614837aChecked
import GoSem.Claim
import GoSem.ClaimJoined
import GoSem.ClaimMapViews
import Derived.JoinedTies
import Derived.KernelRfl
namespace Go.Proofs.Qxb6614837a
/- THE CELL 'sum', in the pinned program and in every row, IS THE sha256 OF THE DUMP (.gsa) THAT Qxb6614837aProg.lean LOADS. Nothing in Lean hashes anything: it is a label: what it is worth is what the hold of that sum in a sandbox is worth. -/
noncomputable def Try.pinned : Pinned := { name := "qxb6614837a", sum := "0101e39de931b3cae28454a15cab9cfe0fea9336e8ea7dd770ee08dd9e2380ec", checked := Try.checked }
namespace Rows
def none {H : Type} : Left H := { results := [], args := [] }

/-- 'zzlaws_jsontree_b1.FnGrownProbesInOrder': WHATEVER THE INPUT: true; the input reads as it did. -/
def fnGrownProbesInOrderSpec : ChangeSpec := { name := "fnGrownProbesInOrder", fn := fun _ => fun
  | [d1, d2, d3, d4] => { results := [.lit (.bool true)], args := [d1, d2, d3, d4] }
  | _ => none }
def fnGrownProbesInOrderRow : OpenClaim := { program := "qxb6614837a", sum := "0101e39de931b3cae28454a15cab9cfe0fea9336e8ea7dd770ee08dd9e2380ec", func := "example.com/toolwright/toolwright/zzlaws_jsontree_b1.FnGrownProbesInOrder", spec := "fnGrownProbesInOrder", unfollowed := true, recurses := true, apart := false }
def FnGrownProbesInOrderSaid : Prop := fnGrownProbesInOrderRow.holds Try.pinned (OpenSpec.ofChange fnGrownProbesInOrderSpec)

/-- ITS FALSE NEIGHBOUR: 'it returns false'. Refute it at one input. -/
def fnGrownProbesInOrderWrong : ChangeSpec := { name := "fnGrownProbesInOrder", fn := fun _ => fun
  | [d1, d2, d3, d4] => { results := [.lit (.bool false)], args := [d1, d2, d3, d4] }
  | _ => none }
def FnGrownProbesInOrderWrongFalsely : Prop := fnGrownProbesInOrderRow.holds Try.pinned (OpenSpec.ofChange fnGrownProbesInOrderWrong)

/-- 'zzlaws_jsontree_b1.FnGrownKeysFoundByFind': WHATEVER THE INPUT: true; the input reads as it did. -/
def fnGrownKeysFoundByFindSpec : ChangeSpec := { name := "fnGrownKeysFoundByFind", fn := fun _ => fun
  | [d1, d2, d3, d4] => { results := [.lit (.bool true)], args := [d1, d2, d3, d4] }
  | _ => none }
def fnGrownKeysFoundByFindRow : OpenClaim := { program := "qxb6614837a", sum := "0101e39de931b3cae28454a15cab9cfe0fea9336e8ea7dd770ee08dd9e2380ec", func := "example.com/toolwright/toolwright/zzlaws_jsontree_b1.FnGrownKeysFoundByFind", spec := "fnGrownKeysFoundByFind", unfollowed := true, recurses := true, apart := false }
def FnGrownKeysFoundByFindSaid : Prop := fnGrownKeysFoundByFindRow.holds Try.pinned (OpenSpec.ofChange fnGrownKeysFoundByFindSpec)

/-- ITS FALSE NEIGHBOUR: 'it returns false'. Refute it at one input. -/
def fnGrownKeysFoundByFindWrong : ChangeSpec := { name := "fnGrownKeysFoundByFind", fn := fun _ => fun
  | [d1, d2, d3, d4] => { results := [.lit (.bool false)], args := [d1, d2, d3, d4] }
  | _ => none }
def FnGrownKeysFoundByFindWrongFalsely : Prop := fnGrownKeysFoundByFindRow.holds Try.pinned (OpenSpec.ofChange fnGrownKeysFoundByFindWrong)

end Rows
end Go.Proofs.Qxb6614837a
