/-
  No cell of these rows narrows 'for every input' (looked for: loops, veiled, ifaces, maps, wideKeys, modest, calm, conditions, laid).
  DERIVED. THE GIVEN ROWS OF THIS SEAT. 9 by the template 'for every input the law returns true; each argument reads behind the call as it read before'; 0 by the template 'total and deterministic' (their statements: Qxb6001151aModsTotals.lean).
  GIVEN WITH THE SEED: the statements are not yours to turn. If you find one false, say at which input.
  Laid BY PROGRAM, IN A SANDBOX (cutbox-rows.mjs): the forced cells as the released guide's own fill.sh prints them over the translation 5d4b2ea061655fb9… (all of the seat's roots in one cut). By AI agents, Wed Nov 11 2026. No macro, syntax, notation, axiom, sorry.
-/
import Derived.Test.Qxb6001151aModsChecked
import GoSem.Claim
import GoSem.ClaimJoined
import GoSem.ClaimMapViews
import Derived.JoinedTies
import Derived.KernelRfl
namespace Go.Proofs.Qxb6001151aMods
/- THE CELL 'sum', in the pinned program and in every row, IS THE sha256 OF THE DUMP (.gsa) THAT Qxb6001151aModsProg.lean LOADS. Nothing in Lean hashes anything: it is a label: what it is worth is what the hold of that sum in a sandbox is worth. -/
noncomputable def Trym.pinned : Pinned := { name := "qxb6001151amods", sum := "5d4b2ea061655fb901b9a7c3ba04811ece9d19f3f13d74025b39c6d2d813ba30", checked := Trym.checked }
namespace Rows
def none {H : Type} : Left H := { results := [], args := [] }

/-- 'zzlaws_pkg_store_b1.FnSkipValueBoundsAndTruncation': WHATEVER THE INPUT: true; the input reads as it did. -/
def fnSkipValueBoundsAndTruncationSpec : ChangeSpec := { name := "fnSkipValueBoundsAndTruncation", fn := fun _ => fun
  | [d1, d2] => { results := [.lit (.bool true)], args := [d1, d2] }
  | _ => none }
def fnSkipValueBoundsAndTruncationRow : OpenClaim := { program := "qxb6001151amods", sum := "5d4b2ea061655fb901b9a7c3ba04811ece9d19f3f13d74025b39c6d2d813ba30", func := "example.com/emberfleet/emberfleet/zzlaws_pkg_store_b1.FnSkipValueBoundsAndTruncation", spec := "fnSkipValueBoundsAndTruncation", make := .lifted ["publicsums"], apart := false }
def FnSkipValueBoundsAndTruncationSaid : Prop := fnSkipValueBoundsAndTruncationRow.holds Trym.pinned (OpenSpec.ofChange fnSkipValueBoundsAndTruncationSpec)

/-- ITS FALSE NEIGHBOUR: 'it returns false'. Refute it at one input. -/
def fnSkipValueBoundsAndTruncationWrong : ChangeSpec := { name := "fnSkipValueBoundsAndTruncation", fn := fun _ => fun
  | [d1, d2] => { results := [.lit (.bool false)], args := [d1, d2] }
  | _ => none }
def FnSkipValueBoundsAndTruncationWrongFalsely : Prop := fnSkipValueBoundsAndTruncationRow.holds Trym.pinned (OpenSpec.ofChange fnSkipValueBoundsAndTruncationWrong)

/-- 'zzlaws_pkg_store_b1.FnSkipValueIgnoresPrefix': WHATEVER THE INPUT: true; the input reads as it did. -/
def fnSkipValueIgnoresPrefixSpec : ChangeSpec := { name := "fnSkipValueIgnoresPrefix", fn := fun _ => fun
  | [d1, d2, d3] => { results := [.lit (.bool true)], args := [d1, d2, d3] }
  | _ => none }
def fnSkipValueIgnoresPrefixRow : OpenClaim := { program := "qxb6001151amods", sum := "5d4b2ea061655fb901b9a7c3ba04811ece9d19f3f13d74025b39c6d2d813ba30", func := "example.com/emberfleet/emberfleet/zzlaws_pkg_store_b1.FnSkipValueIgnoresPrefix", spec := "fnSkipValueIgnoresPrefix", make := .lifted ["publicsums"], apart := false }
def FnSkipValueIgnoresPrefixSaid : Prop := fnSkipValueIgnoresPrefixRow.holds Trym.pinned (OpenSpec.ofChange fnSkipValueIgnoresPrefixSpec)

/-- ITS FALSE NEIGHBOUR: 'it returns false'. Refute it at one input. -/
def fnSkipValueIgnoresPrefixWrong : ChangeSpec := { name := "fnSkipValueIgnoresPrefix", fn := fun _ => fun
  | [d1, d2, d3] => { results := [.lit (.bool false)], args := [d1, d2, d3] }
  | _ => none }
def FnSkipValueIgnoresPrefixWrongFalsely : Prop := fnSkipValueIgnoresPrefixRow.holds Trym.pinned (OpenSpec.ofChange fnSkipValueIgnoresPrefixWrong)

/-- 'zzlaws_pkg_store_b1.FnSkipValueFindsEncodedValue': WHATEVER THE INPUT: true; the input reads as it did. -/
def fnSkipValueFindsEncodedValueSpec : ChangeSpec := { name := "fnSkipValueFindsEncodedValue", fn := fun _ => fun
  | [d1, d2, d3, d4] => { results := [.lit (.bool true)], args := [d1, d2, d3, d4] }
  | _ => none }
def fnSkipValueFindsEncodedValueRow : OpenClaim := { program := "qxb6001151amods", sum := "5d4b2ea061655fb901b9a7c3ba04811ece9d19f3f13d74025b39c6d2d813ba30", func := "example.com/emberfleet/emberfleet/zzlaws_pkg_store_b1.FnSkipValueFindsEncodedValue", spec := "fnSkipValueFindsEncodedValue", make := .lifted ["publicsums"], apart := false }
def FnSkipValueFindsEncodedValueSaid : Prop := fnSkipValueFindsEncodedValueRow.holds Trym.pinned (OpenSpec.ofChange fnSkipValueFindsEncodedValueSpec)

/-- ITS FALSE NEIGHBOUR: 'it returns false'. Refute it at one input. -/
def fnSkipValueFindsEncodedValueWrong : ChangeSpec := { name := "fnSkipValueFindsEncodedValue", fn := fun _ => fun
  | [d1, d2, d3, d4] => { results := [.lit (.bool false)], args := [d1, d2, d3, d4] }
  | _ => none }
def FnSkipValueFindsEncodedValueWrongFalsely : Prop := fnSkipValueFindsEncodedValueRow.holds Trym.pinned (OpenSpec.ofChange fnSkipValueFindsEncodedValueWrong)

/-- 'zzlaws_pkg_store_b1.FnScanNameReadsEncodedName': WHATEVER THE INPUT: true; the input reads as it did. -/
def fnScanNameReadsEncodedNameSpec : ChangeSpec := { name := "fnScanNameReadsEncodedName", fn := fun _ => fun
  | [d1, d2, d3, d4] => { results := [.lit (.bool true)], args := [d1, d2, d3, d4] }
  | _ => none }
def fnScanNameReadsEncodedNameRow : OpenClaim := { program := "qxb6001151amods", sum := "5d4b2ea061655fb901b9a7c3ba04811ece9d19f3f13d74025b39c6d2d813ba30", func := "example.com/emberfleet/emberfleet/zzlaws_pkg_store_b1.FnScanNameReadsEncodedName", spec := "fnScanNameReadsEncodedName", make := .lifted ["publicsums"], apart := false }
def FnScanNameReadsEncodedNameSaid : Prop := fnScanNameReadsEncodedNameRow.holds Trym.pinned (OpenSpec.ofChange fnScanNameReadsEncodedNameSpec)

/-- ITS FALSE NEIGHBOUR: 'it returns false'. Refute it at one input. -/
def fnScanNameReadsEncodedNameWrong : ChangeSpec := { name := "fnScanNameReadsEncodedName", fn := fun _ => fun
  | [d1, d2, d3, d4] => { results := [.lit (.bool false)], args := [d1, d2, d3, d4] }
  | _ => none }
def FnScanNameReadsEncodedNameWrongFalsely : Prop := fnScanNameReadsEncodedNameRow.holds Trym.pinned (OpenSpec.ofChange fnScanNameReadsEncodedNameWrong)

/-- 'zzlaws_pkg_store_b1.FnScanNameShape': WHATEVER THE INPUT: true; the input reads as it did. -/
def fnScanNameShapeSpec : ChangeSpec := { name := "fnScanNameShape", fn := fun _ => fun
  | [d1, d2] => { results := [.lit (.bool true)], args := [d1, d2] }
  | _ => none }
def fnScanNameShapeRow : OpenClaim := { program := "qxb6001151amods", sum := "5d4b2ea061655fb901b9a7c3ba04811ece9d19f3f13d74025b39c6d2d813ba30", func := "example.com/emberfleet/emberfleet/zzlaws_pkg_store_b1.FnScanNameShape", spec := "fnScanNameShape", make := .lifted ["publicsums"], apart := false }
def FnScanNameShapeSaid : Prop := fnScanNameShapeRow.holds Trym.pinned (OpenSpec.ofChange fnScanNameShapeSpec)

/-- ITS FALSE NEIGHBOUR: 'it returns false'. Refute it at one input. -/
def fnScanNameShapeWrong : ChangeSpec := { name := "fnScanNameShape", fn := fun _ => fun
  | [d1, d2] => { results := [.lit (.bool false)], args := [d1, d2] }
  | _ => none }
def FnScanNameShapeWrongFalsely : Prop := fnScanNameShapeRow.holds Trym.pinned (OpenSpec.ofChange fnScanNameShapeWrong)

/-- 'zzlaws_pkg_store_b1.FnScanNameAgreesWithSkipValue': WHATEVER THE INPUT: true; the input reads as it did. -/
def fnScanNameAgreesWithSkipValueSpec : ChangeSpec := { name := "fnScanNameAgreesWithSkipValue", fn := fun _ => fun
  | [d1, d2] => { results := [.lit (.bool true)], args := [d1, d2] }
  | _ => none }
def fnScanNameAgreesWithSkipValueRow : OpenClaim := { program := "qxb6001151amods", sum := "5d4b2ea061655fb901b9a7c3ba04811ece9d19f3f13d74025b39c6d2d813ba30", func := "example.com/emberfleet/emberfleet/zzlaws_pkg_store_b1.FnScanNameAgreesWithSkipValue", spec := "fnScanNameAgreesWithSkipValue", make := .lifted ["publicsums"], apart := false }
def FnScanNameAgreesWithSkipValueSaid : Prop := fnScanNameAgreesWithSkipValueRow.holds Trym.pinned (OpenSpec.ofChange fnScanNameAgreesWithSkipValueSpec)

/-- ITS FALSE NEIGHBOUR: 'it returns false'. Refute it at one input. -/
def fnScanNameAgreesWithSkipValueWrong : ChangeSpec := { name := "fnScanNameAgreesWithSkipValue", fn := fun _ => fun
  | [d1, d2] => { results := [.lit (.bool false)], args := [d1, d2] }
  | _ => none }
def FnScanNameAgreesWithSkipValueWrongFalsely : Prop := fnScanNameAgreesWithSkipValueRow.holds Trym.pinned (OpenSpec.ofChange fnScanNameAgreesWithSkipValueWrong)

/-- 'zzlaws_pkg_store_b1.FnNameAtFindsFirstMatchingKey': WHATEVER THE INPUT: true; the input reads as it did. -/
def fnNameAtFindsFirstMatchingKeySpec : ChangeSpec := { name := "fnNameAtFindsFirstMatchingKey", fn := fun _ => fun
  | [d1, d2, d3] => { results := [.lit (.bool true)], args := [d1, d2, d3] }
  | _ => none }
def fnNameAtFindsFirstMatchingKeyRow : OpenClaim := { program := "qxb6001151amods", sum := "5d4b2ea061655fb901b9a7c3ba04811ece9d19f3f13d74025b39c6d2d813ba30", func := "example.com/emberfleet/emberfleet/zzlaws_pkg_store_b1.FnNameAtFindsFirstMatchingKey", spec := "fnNameAtFindsFirstMatchingKey", inPlace := ["internal/bytealg.IndexByte", "internal/bytealg.Index"], named := ["internal/bytealg.MaxLen"], make := .lifted ["publicsums"], apart := false }
def FnNameAtFindsFirstMatchingKeySaid : Prop := fnNameAtFindsFirstMatchingKeyRow.holds Trym.pinned (OpenSpec.ofChange fnNameAtFindsFirstMatchingKeySpec)

/-- ITS FALSE NEIGHBOUR: 'it returns false'. Refute it at one input. -/
def fnNameAtFindsFirstMatchingKeyWrong : ChangeSpec := { name := "fnNameAtFindsFirstMatchingKey", fn := fun _ => fun
  | [d1, d2, d3] => { results := [.lit (.bool false)], args := [d1, d2, d3] }
  | _ => none }
def FnNameAtFindsFirstMatchingKeyWrongFalsely : Prop := fnNameAtFindsFirstMatchingKeyRow.holds Trym.pinned (OpenSpec.ofChange fnNameAtFindsFirstMatchingKeyWrong)

/-- 'zzlaws_pkg_store_b1.FnNameAtResultIsQuotedName': WHATEVER THE INPUT: true; the input reads as it did. -/
def fnNameAtResultIsQuotedNameSpec : ChangeSpec := { name := "fnNameAtResultIsQuotedName", fn := fun _ => fun
  | [d1, d2, d3] => { results := [.lit (.bool true)], args := [d1, d2, d3] }
  | _ => none }
def fnNameAtResultIsQuotedNameRow : OpenClaim := { program := "qxb6001151amods", sum := "5d4b2ea061655fb901b9a7c3ba04811ece9d19f3f13d74025b39c6d2d813ba30", func := "example.com/emberfleet/emberfleet/zzlaws_pkg_store_b1.FnNameAtResultIsQuotedName", spec := "fnNameAtResultIsQuotedName", inPlace := ["internal/bytealg.IndexByte", "internal/bytealg.Index"], named := ["internal/bytealg.MaxLen"], make := .lifted ["publicsums"], apart := false }
def FnNameAtResultIsQuotedNameSaid : Prop := fnNameAtResultIsQuotedNameRow.holds Trym.pinned (OpenSpec.ofChange fnNameAtResultIsQuotedNameSpec)

/-- ITS FALSE NEIGHBOUR: 'it returns false'. Refute it at one input. -/
def fnNameAtResultIsQuotedNameWrong : ChangeSpec := { name := "fnNameAtResultIsQuotedName", fn := fun _ => fun
  | [d1, d2, d3] => { results := [.lit (.bool false)], args := [d1, d2, d3] }
  | _ => none }
def FnNameAtResultIsQuotedNameWrongFalsely : Prop := fnNameAtResultIsQuotedNameRow.holds Trym.pinned (OpenSpec.ofChange fnNameAtResultIsQuotedNameWrong)

/-- 'zzlaws_pkg_store_b1.FnNameAtFirstFromStart': WHATEVER THE INPUT: true; the input reads as it did. -/
def fnNameAtFirstFromStartSpec : ChangeSpec := { name := "fnNameAtFirstFromStart", fn := fun _ => fun
  | [d1, d2, d3, d4] => { results := [.lit (.bool true)], args := [d1, d2, d3, d4] }
  | _ => none }
def fnNameAtFirstFromStartRow : OpenClaim := { program := "qxb6001151amods", sum := "5d4b2ea061655fb901b9a7c3ba04811ece9d19f3f13d74025b39c6d2d813ba30", func := "example.com/emberfleet/emberfleet/zzlaws_pkg_store_b1.FnNameAtFirstFromStart", spec := "fnNameAtFirstFromStart", inPlace := ["internal/bytealg.IndexByte", "internal/bytealg.Index"], named := ["internal/bytealg.MaxLen"], make := .lifted ["publicsums"], apart := false }
def FnNameAtFirstFromStartSaid : Prop := fnNameAtFirstFromStartRow.holds Trym.pinned (OpenSpec.ofChange fnNameAtFirstFromStartSpec)

/-- ITS FALSE NEIGHBOUR: 'it returns false'. Refute it at one input. -/
def fnNameAtFirstFromStartWrong : ChangeSpec := { name := "fnNameAtFirstFromStart", fn := fun _ => fun
  | [d1, d2, d3, d4] => { results := [.lit (.bool false)], args := [d1, d2, d3, d4] }
  | _ => none }
def FnNameAtFirstFromStartWrongFalsely : Prop := fnNameAtFirstFromStartRow.holds Trym.pinned (OpenSpec.ofChange fnNameAtFirstFromStartWrong)

end Rows
end Go.Proofs.Qxb6001151aMods
