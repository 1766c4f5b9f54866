/-
  No cell of these rows narrows 'for every input' (looked for: loops, veiled, ifaces, maps, wideKeys, modest, calm, conditions, laid).
  DERIVED. THE GIVEN ROWS OF THIS SEAT. 4 by the template 'for every input the law returns true; each argument reads behind the call as it read before'; 0 by the template 'total and deterministic' (their statements: Qxb6600318aTotals.lean).
  GIVEN WITH THE SEED: the statements are not yours to turn. If you find one false, say at which input.
  Laid BY PROGRAM, IN A SANDBOX (cutbox-rows.mjs): the forced cells as the released guide's own fill.sh prints them over the translation 565a93d171f951ec… (all of the seat's roots in one cut). By AI agents, Wed Nov 11 2026. No macro, syntax, notation, axiom, sorry.
-/
import Derived.Test.Qxb6600318aChecked
import GoSem.Claim
import GoSem.ClaimJoined
import GoSem.ClaimMapViews
import Derived.JoinedTies
import Derived.KernelRfl
namespace Go.Proofs.Qxb6600318a
/- THE CELL 'sum', in the pinned program and in every row, IS THE sha256 OF THE DUMP (.gsa) THAT Qxb6600318aProg.lean LOADS. Nothing in Lean hashes anything: it is a label: what it is worth is what the hold of that sum in a sandbox is worth. -/
noncomputable def Try.pinned : Pinned := { name := "qxb6600318a", sum := "565a93d171f951ec1b54e6a8e341b9bede1dd2b4f270778332f0c58cb94cc0a9", checked := Try.checked }
namespace Rows
def none {H : Type} : Left H := { results := [], args := [] }

/-- 'zzlaws_zkstore_b1.FnQueueUpToExact': WHATEVER THE INPUT: true; the input reads as it did. -/
def fnQueueUpToExactSpec : ChangeSpec := { name := "fnQueueUpToExact", fn := fun _ => fun
  | [d1, d2, d3, d4, d5] => { results := [.lit (.bool true)], args := [d1, d2, d3, d4, d5] }
  | _ => none }
def fnQueueUpToExactRow : OpenClaim := { program := "qxb6600318a", sum := "565a93d171f951ec1b54e6a8e341b9bede1dd2b4f270778332f0c58cb94cc0a9", func := "example.com/leader-lease/leader-lease/zzlaws_zkstore_b1.FnQueueUpToExact", spec := "fnQueueUpToExact", apart := false }
def FnQueueUpToExactSaid : Prop := fnQueueUpToExactRow.holds Try.pinned (OpenSpec.ofChange fnQueueUpToExactSpec)

/-- ITS FALSE NEIGHBOUR: 'it returns false'. Refute it at one input. -/
def fnQueueUpToExactWrong : ChangeSpec := { name := "fnQueueUpToExact", fn := fun _ => fun
  | [d1, d2, d3, d4, d5] => { results := [.lit (.bool false)], args := [d1, d2, d3, d4, d5] }
  | _ => none }
def FnQueueUpToExactWrongFalsely : Prop := fnQueueUpToExactRow.holds Try.pinned (OpenSpec.ofChange fnQueueUpToExactWrong)

/-- 'zzlaws_zkstore_b1.FnQueueUpToComposes': WHATEVER THE INPUT: true; the input reads as it did. -/
def fnQueueUpToComposesSpec : ChangeSpec := { name := "fnQueueUpToComposes", fn := fun _ => fun
  | [d1, d2, d3, d4, d5, d6, d7] => { results := [.lit (.bool true)], args := [d1, d2, d3, d4, d5, d6, d7] }
  | _ => none }
def fnQueueUpToComposesRow : OpenClaim := { program := "qxb6600318a", sum := "565a93d171f951ec1b54e6a8e341b9bede1dd2b4f270778332f0c58cb94cc0a9", func := "example.com/leader-lease/leader-lease/zzlaws_zkstore_b1.FnQueueUpToComposes", spec := "fnQueueUpToComposes", apart := false }
def FnQueueUpToComposesSaid : Prop := fnQueueUpToComposesRow.holds Try.pinned (OpenSpec.ofChange fnQueueUpToComposesSpec)

/-- ITS FALSE NEIGHBOUR: 'it returns false'. Refute it at one input. -/
def fnQueueUpToComposesWrong : ChangeSpec := { name := "fnQueueUpToComposes", fn := fun _ => fun
  | [d1, d2, d3, d4, d5, d6, d7] => { results := [.lit (.bool false)], args := [d1, d2, d3, d4, d5, d6, d7] }
  | _ => none }
def FnQueueUpToComposesWrongFalsely : Prop := fnQueueUpToComposesRow.holds Try.pinned (OpenSpec.ofChange fnQueueUpToComposesWrong)

/-- 'zzlaws_zkstore_b1.FnSetExact': WHATEVER THE INPUT: true; the input reads as it did. -/
def fnSetExactSpec : ChangeSpec := { name := "fnSetExact", fn := fun _ => fun
  | [d1, d2] => { results := [.lit (.bool true)], args := [d1, d2] }
  | _ => none }
def fnSetExactRow : OpenClaim := { program := "qxb6600318a", sum := "565a93d171f951ec1b54e6a8e341b9bede1dd2b4f270778332f0c58cb94cc0a9", func := "example.com/leader-lease/leader-lease/zzlaws_zkstore_b1.FnSetExact", spec := "fnSetExact", apart := false }
def FnSetExactSaid : Prop := fnSetExactRow.holds Try.pinned (OpenSpec.ofChange fnSetExactSpec)

/-- ITS FALSE NEIGHBOUR: 'it returns false'. Refute it at one input. -/
def fnSetExactWrong : ChangeSpec := { name := "fnSetExact", fn := fun _ => fun
  | [d1, d2] => { results := [.lit (.bool false)], args := [d1, d2] }
  | _ => none }
def FnSetExactWrongFalsely : Prop := fnSetExactRow.holds Try.pinned (OpenSpec.ofChange fnSetExactWrong)

/-- 'zzlaws_zkstore_b1.FnSetIgnoresOrderAndRepeats': WHATEVER THE INPUT: true; the input reads as it did. -/
def fnSetIgnoresOrderAndRepeatsSpec : ChangeSpec := { name := "fnSetIgnoresOrderAndRepeats", fn := fun _ => fun
  | [d] => { results := [.lit (.bool true)], args := [d] }
  | _ => none }
def fnSetIgnoresOrderAndRepeatsRow : OpenClaim := { program := "qxb6600318a", sum := "565a93d171f951ec1b54e6a8e341b9bede1dd2b4f270778332f0c58cb94cc0a9", func := "example.com/leader-lease/leader-lease/zzlaws_zkstore_b1.FnSetIgnoresOrderAndRepeats", spec := "fnSetIgnoresOrderAndRepeats", apart := false }
def FnSetIgnoresOrderAndRepeatsSaid : Prop := fnSetIgnoresOrderAndRepeatsRow.holds Try.pinned (OpenSpec.ofChange fnSetIgnoresOrderAndRepeatsSpec)

/-- ITS FALSE NEIGHBOUR: 'it returns false'. Refute it at one input. -/
def fnSetIgnoresOrderAndRepeatsWrong : ChangeSpec := { name := "fnSetIgnoresOrderAndRepeats", fn := fun _ => fun
  | [d] => { results := [.lit (.bool false)], args := [d] }
  | _ => none }
def FnSetIgnoresOrderAndRepeatsWrongFalsely : Prop := fnSetIgnoresOrderAndRepeatsRow.holds Try.pinned (OpenSpec.ofChange fnSetIgnoresOrderAndRepeatsWrong)

end Rows
end Go.Proofs.Qxb6600318a
