/-
  No cell of these rows narrows 'for every input' (looked for: loops, veiled, ifaces, maps, wideKeys, modest, calm, conditions, laid).
  DERIVED. THE GIVEN ROWS OF THIS SEAT. 6 by the template 'for every input the law returns true; each argument reads behind the call as it read before'; 0 by the template 'total and deterministic' (their statements: Qxb6600267aTotals.lean).
  GIVEN WITH THE SEED: the statements are not yours to turn. If you find one false, say at which input.
  Laid BY PROGRAM, IN A SANDBOX (cutbox-rows.mjs): the forced cells as the released guide's own fill.sh prints them over the translation d14d8f42ee702ded… (all of the seat's roots in one cut). By AI agents, Wed Nov 11 2026. No macro, syntax, notation, axiom, sorry.
-/
import Derived.Test.Qxb6600267aChecked
import GoSem.Claim
import GoSem.ClaimJoined
import GoSem.ClaimMapViews
import Derived.JoinedTies
import Derived.KernelRfl
namespace Go.Proofs.Qxb6600267a
/- THE CELL 'sum', in the pinned program and in every row, IS THE sha256 OF THE DUMP (.gsa) THAT Qxb6600267aProg.lean LOADS. Nothing in Lean hashes anything: it is a label: what it is worth is what the hold of that sum in a sandbox is worth. -/
noncomputable def Try.pinned : Pinned := { name := "qxb6600267a", sum := "d14d8f42ee702ded1e7f5421271e463b611f9371df14816e58050c092fbe96bb", checked := Try.checked }
namespace Rows
def none {H : Type} : Left H := { results := [], args := [] }

/-- 'zzlaws_pkg_api_b1.FnPackedAtRoundTrip': WHATEVER THE INPUT: true; the input reads as it did. -/
def fnPackedAtRoundTripSpec : ChangeSpec := { name := "fnPackedAtRoundTrip", fn := fun _ => fun
  | [d1, d2, d3] => { results := [.lit (.bool true)], args := [d1, d2, d3] }
  | _ => none }
def fnPackedAtRoundTripRow : OpenClaim := { program := "qxb6600267a", sum := "d14d8f42ee702ded1e7f5421271e463b611f9371df14816e58050c092fbe96bb", func := "example.com/countersign/countersign/zzlaws_pkg_api_b1.FnPackedAtRoundTrip", spec := "fnPackedAtRoundTrip", apart := false }
def FnPackedAtRoundTripSaid : Prop := fnPackedAtRoundTripRow.holds Try.pinned (OpenSpec.ofChange fnPackedAtRoundTripSpec)

/-- ITS FALSE NEIGHBOUR: 'it returns false'. Refute it at one input. -/
def fnPackedAtRoundTripWrong : ChangeSpec := { name := "fnPackedAtRoundTrip", fn := fun _ => fun
  | [d1, d2, d3] => { results := [.lit (.bool false)], args := [d1, d2, d3] }
  | _ => none }
def FnPackedAtRoundTripWrongFalsely : Prop := fnPackedAtRoundTripRow.holds Try.pinned (OpenSpec.ofChange fnPackedAtRoundTripWrong)

/-- 'zzlaws_pkg_api_b1.FnPackedScanFindsFirstNotBefore': WHATEVER THE INPUT: true; the input reads as it did. -/
def fnPackedScanFindsFirstNotBeforeSpec : ChangeSpec := { name := "fnPackedScanFindsFirstNotBefore", fn := fun _ => fun
  | [d1, d2, d3, d4, d5, d6] => { results := [.lit (.bool true)], args := [d1, d2, d3, d4, d5, d6] }
  | _ => none }
def fnPackedScanFindsFirstNotBeforeRow : OpenClaim := { program := "qxb6600267a", sum := "d14d8f42ee702ded1e7f5421271e463b611f9371df14816e58050c092fbe96bb", func := "example.com/countersign/countersign/zzlaws_pkg_api_b1.FnPackedScanFindsFirstNotBefore", spec := "fnPackedScanFindsFirstNotBefore", apart := false }
def FnPackedScanFindsFirstNotBeforeSaid : Prop := fnPackedScanFindsFirstNotBeforeRow.holds Try.pinned (OpenSpec.ofChange fnPackedScanFindsFirstNotBeforeSpec)

/-- ITS FALSE NEIGHBOUR: 'it returns false'. Refute it at one input. -/
def fnPackedScanFindsFirstNotBeforeWrong : ChangeSpec := { name := "fnPackedScanFindsFirstNotBefore", fn := fun _ => fun
  | [d1, d2, d3, d4, d5, d6] => { results := [.lit (.bool false)], args := [d1, d2, d3, d4, d5, d6] }
  | _ => none }
def FnPackedScanFindsFirstNotBeforeWrongFalsely : Prop := fnPackedScanFindsFirstNotBeforeRow.holds Try.pinned (OpenSpec.ofChange fnPackedScanFindsFirstNotBeforeWrong)

/-- 'zzlaws_pkg_api_b1.FnPackedScanAgreesWithAt': WHATEVER THE INPUT: true; the input reads as it did. -/
def fnPackedScanAgreesWithAtSpec : ChangeSpec := { name := "fnPackedScanAgreesWithAt", fn := fun _ => fun
  | [d1, d2, d3, d4, d5, d6] => { results := [.lit (.bool true)], args := [d1, d2, d3, d4, d5, d6] }
  | _ => none }
def fnPackedScanAgreesWithAtRow : OpenClaim := { program := "qxb6600267a", sum := "d14d8f42ee702ded1e7f5421271e463b611f9371df14816e58050c092fbe96bb", func := "example.com/countersign/countersign/zzlaws_pkg_api_b1.FnPackedScanAgreesWithAt", spec := "fnPackedScanAgreesWithAt", apart := false }
def FnPackedScanAgreesWithAtSaid : Prop := fnPackedScanAgreesWithAtRow.holds Try.pinned (OpenSpec.ofChange fnPackedScanAgreesWithAtSpec)

/-- ITS FALSE NEIGHBOUR: 'it returns false'. Refute it at one input. -/
def fnPackedScanAgreesWithAtWrong : ChangeSpec := { name := "fnPackedScanAgreesWithAt", fn := fun _ => fun
  | [d1, d2, d3, d4, d5, d6] => { results := [.lit (.bool false)], args := [d1, d2, d3, d4, d5, d6] }
  | _ => none }
def FnPackedScanAgreesWithAtWrongFalsely : Prop := fnPackedScanAgreesWithAtRow.holds Try.pinned (OpenSpec.ofChange fnPackedScanAgreesWithAtWrong)

/-- 'zzlaws_pkg_api_b1.FnPackedScanMonotoneInTarget': WHATEVER THE INPUT: true; the input reads as it did. -/
def fnPackedScanMonotoneInTargetSpec : ChangeSpec := { name := "fnPackedScanMonotoneInTarget", fn := fun _ => fun
  | [d1, d2, d3, d4, d5, d6, d7] => { results := [.lit (.bool true)], args := [d1, d2, d3, d4, d5, d6, d7] }
  | _ => none }
def fnPackedScanMonotoneInTargetRow : OpenClaim := { program := "qxb6600267a", sum := "d14d8f42ee702ded1e7f5421271e463b611f9371df14816e58050c092fbe96bb", func := "example.com/countersign/countersign/zzlaws_pkg_api_b1.FnPackedScanMonotoneInTarget", spec := "fnPackedScanMonotoneInTarget", apart := false }
def FnPackedScanMonotoneInTargetSaid : Prop := fnPackedScanMonotoneInTargetRow.holds Try.pinned (OpenSpec.ofChange fnPackedScanMonotoneInTargetSpec)

/-- ITS FALSE NEIGHBOUR: 'it returns false'. Refute it at one input. -/
def fnPackedScanMonotoneInTargetWrong : ChangeSpec := { name := "fnPackedScanMonotoneInTarget", fn := fun _ => fun
  | [d1, d2, d3, d4, d5, d6, d7] => { results := [.lit (.bool false)], args := [d1, d2, d3, d4, d5, d6, d7] }
  | _ => none }
def FnPackedScanMonotoneInTargetWrongFalsely : Prop := fnPackedScanMonotoneInTargetRow.holds Try.pinned (OpenSpec.ofChange fnPackedScanMonotoneInTargetWrong)

/-- 'zzlaws_pkg_api_b1.FnSplitUnescapedJoinsBack': WHATEVER THE INPUT: true; the input reads as it did. -/
def fnSplitUnescapedJoinsBackSpec : ChangeSpec := { name := "fnSplitUnescapedJoinsBack", fn := fun _ => fun
  | [d1, d2] => { results := [.lit (.bool true)], args := [d1, d2] }
  | _ => none }
def fnSplitUnescapedJoinsBackRow : OpenClaim := { program := "qxb6600267a", sum := "d14d8f42ee702ded1e7f5421271e463b611f9371df14816e58050c092fbe96bb", func := "example.com/countersign/countersign/zzlaws_pkg_api_b1.FnSplitUnescapedJoinsBack", spec := "fnSplitUnescapedJoinsBack", apart := false }
def FnSplitUnescapedJoinsBackSaid : Prop := fnSplitUnescapedJoinsBackRow.holds Try.pinned (OpenSpec.ofChange fnSplitUnescapedJoinsBackSpec)

/-- ITS FALSE NEIGHBOUR: 'it returns false'. Refute it at one input. -/
def fnSplitUnescapedJoinsBackWrong : ChangeSpec := { name := "fnSplitUnescapedJoinsBack", fn := fun _ => fun
  | [d1, d2] => { results := [.lit (.bool false)], args := [d1, d2] }
  | _ => none }
def FnSplitUnescapedJoinsBackWrongFalsely : Prop := fnSplitUnescapedJoinsBackRow.holds Try.pinned (OpenSpec.ofChange fnSplitUnescapedJoinsBackWrong)

/-- 'zzlaws_pkg_api_b1.FnSplitUnescapedPartsSplitNoFurther': WHATEVER THE INPUT: true; the input reads as it did. -/
def fnSplitUnescapedPartsSplitNoFurtherSpec : ChangeSpec := { name := "fnSplitUnescapedPartsSplitNoFurther", fn := fun _ => fun
  | [d1, d2] => { results := [.lit (.bool true)], args := [d1, d2] }
  | _ => none }
def fnSplitUnescapedPartsSplitNoFurtherRow : OpenClaim := { program := "qxb6600267a", sum := "d14d8f42ee702ded1e7f5421271e463b611f9371df14816e58050c092fbe96bb", func := "example.com/countersign/countersign/zzlaws_pkg_api_b1.FnSplitUnescapedPartsSplitNoFurther", spec := "fnSplitUnescapedPartsSplitNoFurther", apart := false }
def FnSplitUnescapedPartsSplitNoFurtherSaid : Prop := fnSplitUnescapedPartsSplitNoFurtherRow.holds Try.pinned (OpenSpec.ofChange fnSplitUnescapedPartsSplitNoFurtherSpec)

/-- ITS FALSE NEIGHBOUR: 'it returns false'. Refute it at one input. -/
def fnSplitUnescapedPartsSplitNoFurtherWrong : ChangeSpec := { name := "fnSplitUnescapedPartsSplitNoFurther", fn := fun _ => fun
  | [d1, d2] => { results := [.lit (.bool false)], args := [d1, d2] }
  | _ => none }
def FnSplitUnescapedPartsSplitNoFurtherWrongFalsely : Prop := fnSplitUnescapedPartsSplitNoFurtherRow.holds Try.pinned (OpenSpec.ofChange fnSplitUnescapedPartsSplitNoFurtherWrong)

end Rows
end Go.Proofs.Qxb6600267a
