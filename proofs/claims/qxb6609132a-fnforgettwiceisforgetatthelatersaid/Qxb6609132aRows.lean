/-
  No cell of these rows narrows 'for every input' (looked for: loops, veiled, ifaces, maps, wideKeys, modest, calm, conditions, laid).
  DERIVED. THE GIVEN ROWS OF THIS SEAT. 6 by the template 'for every input the law returns true; each argument reads behind the call as it read before'; 0 by the template 'total and deterministic' (their statements: Qxb6609132aTotals.lean).
  GIVEN WITH THE SEED: the statements are not yours to turn. If you find one false, say at which input.
  Laid BY PROGRAM, IN A SANDBOX (cutbox-rows.mjs): the forced cells as the released guide's own fill.sh prints them over the translation 2355b7495dff1357… (all of the seat's roots in one cut). By AI agents, Wed Nov 11 2026. No macro, syntax, notation, axiom, sorry.
-/
import Derived.Test.Qxb6609132aChecked
import GoSem.Claim
import GoSem.ClaimJoined
import GoSem.ClaimMapViews
import Derived.JoinedTies
import Derived.KernelRfl
namespace Go.Proofs.Qxb6609132a
/- THE CELL 'sum', in the pinned program and in every row, IS THE sha256 OF THE DUMP (.gsa) THAT Qxb6609132aProg.lean LOADS. Nothing in Lean hashes anything: it is a label: what it is worth is what the hold of that sum in a sandbox is worth. -/
noncomputable def Try.pinned : Pinned := { name := "qxb6609132a", sum := "2355b7495dff135796d6ba3379654af24fcab8f7cb9f1b9d6bf9fe7c53c73642", checked := Try.checked }
namespace Rows
def none {H : Type} : Left H := { results := [], args := [] }

/-- 'zzlaws_internal_detect_b1.FnNewSiteStartsEmpty': WHATEVER THE INPUT: true; the input reads as it did. -/
def fnNewSiteStartsEmptySpec : ChangeSpec := { name := "fnNewSiteStartsEmpty", fn := fun _ => fun
  | [d1, d2, d3, d4, d5, d6] => { results := [.lit (.bool true)], args := [d1, d2, d3, d4, d5, d6] }
  | _ => none }
def fnNewSiteStartsEmptyRow : OpenClaim := { program := "qxb6609132a", sum := "2355b7495dff135796d6ba3379654af24fcab8f7cb9f1b9d6bf9fe7c53c73642", func := "example.com/edgechase/edgechase/zzlaws_internal_detect_b1.FnNewSiteStartsEmpty", spec := "fnNewSiteStartsEmpty", unfollowed := true, recurses := true, plainKeys := false, apart := false }
def FnNewSiteStartsEmptySaid : Prop := fnNewSiteStartsEmptyRow.holds Try.pinned (OpenSpec.ofChange fnNewSiteStartsEmptySpec)

/-- ITS FALSE NEIGHBOUR: 'it returns false'. Refute it at one input. -/
def fnNewSiteStartsEmptyWrong : ChangeSpec := { name := "fnNewSiteStartsEmpty", fn := fun _ => fun
  | [d1, d2, d3, d4, d5, d6] => { results := [.lit (.bool false)], args := [d1, d2, d3, d4, d5, d6] }
  | _ => none }
def FnNewSiteStartsEmptyWrongFalsely : Prop := fnNewSiteStartsEmptyRow.holds Try.pinned (OpenSpec.ofChange fnNewSiteStartsEmptyWrong)

/-- 'zzlaws_internal_detect_b1.FnBlockedMatchesScript': WHATEVER THE INPUT: true; the input reads as it did. -/
def fnBlockedMatchesScriptSpec : ChangeSpec := { name := "fnBlockedMatchesScript", fn := fun _ => fun
  | [d1, d2, d3] => { results := [.lit (.bool true)], args := [d1, d2, d3] }
  | _ => none }
def fnBlockedMatchesScriptRow : OpenClaim := { program := "qxb6609132a", sum := "2355b7495dff135796d6ba3379654af24fcab8f7cb9f1b9d6bf9fe7c53c73642", func := "example.com/edgechase/edgechase/zzlaws_internal_detect_b1.FnBlockedMatchesScript", spec := "fnBlockedMatchesScript", inPlace := ["slices.overlaps[example.com/edgechase/edgechase/internal/detect.Moment]"], unfollowed := true, recurses := true, plainKeys := false, apart := false }
def FnBlockedMatchesScriptSaid : Prop := fnBlockedMatchesScriptRow.holds Try.pinned (OpenSpec.ofChange fnBlockedMatchesScriptSpec)

/-- ITS FALSE NEIGHBOUR: 'it returns false'. Refute it at one input. -/
def fnBlockedMatchesScriptWrong : ChangeSpec := { name := "fnBlockedMatchesScript", fn := fun _ => fun
  | [d1, d2, d3] => { results := [.lit (.bool false)], args := [d1, d2, d3] }
  | _ => none }
def FnBlockedMatchesScriptWrongFalsely : Prop := fnBlockedMatchesScriptRow.holds Try.pinned (OpenSpec.ofChange fnBlockedMatchesScriptWrong)

/-- 'zzlaws_internal_detect_b1.FnBlockedDoneEndsOnlyItsOwn': WHATEVER THE INPUT: true; the input reads as it did. -/
def fnBlockedDoneEndsOnlyItsOwnSpec : ChangeSpec := { name := "fnBlockedDoneEndsOnlyItsOwn", fn := fun _ => fun
  | [d1, d2, d3, d4] => { results := [.lit (.bool true)], args := [d1, d2, d3, d4] }
  | _ => none }
def fnBlockedDoneEndsOnlyItsOwnRow : OpenClaim := { program := "qxb6609132a", sum := "2355b7495dff135796d6ba3379654af24fcab8f7cb9f1b9d6bf9fe7c53c73642", func := "example.com/edgechase/edgechase/zzlaws_internal_detect_b1.FnBlockedDoneEndsOnlyItsOwn", spec := "fnBlockedDoneEndsOnlyItsOwn", inPlace := ["slices.overlaps[example.com/edgechase/edgechase/internal/detect.Moment]"], unfollowed := true, recurses := true, plainKeys := false, apart := false }
def FnBlockedDoneEndsOnlyItsOwnSaid : Prop := fnBlockedDoneEndsOnlyItsOwnRow.holds Try.pinned (OpenSpec.ofChange fnBlockedDoneEndsOnlyItsOwnSpec)

/-- ITS FALSE NEIGHBOUR: 'it returns false'. Refute it at one input. -/
def fnBlockedDoneEndsOnlyItsOwnWrong : ChangeSpec := { name := "fnBlockedDoneEndsOnlyItsOwn", fn := fun _ => fun
  | [d1, d2, d3, d4] => { results := [.lit (.bool false)], args := [d1, d2, d3, d4] }
  | _ => none }
def FnBlockedDoneEndsOnlyItsOwnWrongFalsely : Prop := fnBlockedDoneEndsOnlyItsOwnRow.holds Try.pinned (OpenSpec.ofChange fnBlockedDoneEndsOnlyItsOwnWrong)

/-- 'zzlaws_internal_detect_b1.FnFollowedMatchesScript': WHATEVER THE INPUT: true; the input reads as it did. -/
def fnFollowedMatchesScriptSpec : ChangeSpec := { name := "fnFollowedMatchesScript", fn := fun _ => fun
  | [d1, d2, d3, d4, d5, d6] => { results := [.lit (.bool true)], args := [d1, d2, d3, d4, d5, d6] }
  | _ => none }
def fnFollowedMatchesScriptRow : OpenClaim := { program := "qxb6609132a", sum := "2355b7495dff135796d6ba3379654af24fcab8f7cb9f1b9d6bf9fe7c53c73642", func := "example.com/edgechase/edgechase/zzlaws_internal_detect_b1.FnFollowedMatchesScript", spec := "fnFollowedMatchesScript", inPlace := ["slices.overlaps[example.com/edgechase/edgechase/internal/detect.Moment]"], unfollowed := true, recurses := true, plainKeys := false, apart := false }
def FnFollowedMatchesScriptSaid : Prop := fnFollowedMatchesScriptRow.holds Try.pinned (OpenSpec.ofChange fnFollowedMatchesScriptSpec)

/-- ITS FALSE NEIGHBOUR: 'it returns false'. Refute it at one input. -/
def fnFollowedMatchesScriptWrong : ChangeSpec := { name := "fnFollowedMatchesScript", fn := fun _ => fun
  | [d1, d2, d3, d4, d5, d6] => { results := [.lit (.bool false)], args := [d1, d2, d3, d4, d5, d6] }
  | _ => none }
def FnFollowedMatchesScriptWrongFalsely : Prop := fnFollowedMatchesScriptRow.holds Try.pinned (OpenSpec.ofChange fnFollowedMatchesScriptWrong)

/-- 'zzlaws_internal_detect_b1.FnFollowedLaterHorizonKeepsIt': WHATEVER THE INPUT: true; the input reads as it did. -/
def fnFollowedLaterHorizonKeepsItSpec : ChangeSpec := { name := "fnFollowedLaterHorizonKeepsIt", fn := fun _ => fun
  | [d1, d2, d3, d4, d5, d6, d7] => { results := [.lit (.bool true)], args := [d1, d2, d3, d4, d5, d6, d7] }
  | _ => none }
def fnFollowedLaterHorizonKeepsItRow : OpenClaim := { program := "qxb6609132a", sum := "2355b7495dff135796d6ba3379654af24fcab8f7cb9f1b9d6bf9fe7c53c73642", func := "example.com/edgechase/edgechase/zzlaws_internal_detect_b1.FnFollowedLaterHorizonKeepsIt", spec := "fnFollowedLaterHorizonKeepsIt", inPlace := ["slices.overlaps[example.com/edgechase/edgechase/internal/detect.Moment]"], unfollowed := true, recurses := true, plainKeys := false, apart := false }
def FnFollowedLaterHorizonKeepsItSaid : Prop := fnFollowedLaterHorizonKeepsItRow.holds Try.pinned (OpenSpec.ofChange fnFollowedLaterHorizonKeepsItSpec)

/-- ITS FALSE NEIGHBOUR: 'it returns false'. Refute it at one input. -/
def fnFollowedLaterHorizonKeepsItWrong : ChangeSpec := { name := "fnFollowedLaterHorizonKeepsIt", fn := fun _ => fun
  | [d1, d2, d3, d4, d5, d6, d7] => { results := [.lit (.bool false)], args := [d1, d2, d3, d4, d5, d6, d7] }
  | _ => none }
def FnFollowedLaterHorizonKeepsItWrongFalsely : Prop := fnFollowedLaterHorizonKeepsItRow.holds Try.pinned (OpenSpec.ofChange fnFollowedLaterHorizonKeepsItWrong)

/-- 'zzlaws_internal_detect_b1.FnForgetTwiceIsForgetAtTheLater': WHATEVER THE INPUT: true; the input reads as it did. -/
def fnForgetTwiceIsForgetAtTheLaterSpec : ChangeSpec := { name := "fnForgetTwiceIsForgetAtTheLater", fn := fun _ => fun
  | [d1, d2, d3, d4, d5] => { results := [.lit (.bool true)], args := [d1, d2, d3, d4, d5] }
  | _ => none }
def fnForgetTwiceIsForgetAtTheLaterRow : OpenClaim := { program := "qxb6609132a", sum := "2355b7495dff135796d6ba3379654af24fcab8f7cb9f1b9d6bf9fe7c53c73642", func := "example.com/edgechase/edgechase/zzlaws_internal_detect_b1.FnForgetTwiceIsForgetAtTheLater", spec := "fnForgetTwiceIsForgetAtTheLater", inPlace := ["slices.overlaps[example.com/edgechase/edgechase/internal/detect.Moment]"], unfollowed := true, recurses := true, plainKeys := false, apart := false }
def FnForgetTwiceIsForgetAtTheLaterSaid : Prop := fnForgetTwiceIsForgetAtTheLaterRow.holds Try.pinned (OpenSpec.ofChange fnForgetTwiceIsForgetAtTheLaterSpec)

/-- ITS FALSE NEIGHBOUR: 'it returns false'. Refute it at one input. -/
def fnForgetTwiceIsForgetAtTheLaterWrong : ChangeSpec := { name := "fnForgetTwiceIsForgetAtTheLater", fn := fun _ => fun
  | [d1, d2, d3, d4, d5] => { results := [.lit (.bool false)], args := [d1, d2, d3, d4, d5] }
  | _ => none }
def FnForgetTwiceIsForgetAtTheLaterWrongFalsely : Prop := fnForgetTwiceIsForgetAtTheLaterRow.holds Try.pinned (OpenSpec.ofChange fnForgetTwiceIsForgetAtTheLaterWrong)

end Rows
end Go.Proofs.Qxb6609132a
