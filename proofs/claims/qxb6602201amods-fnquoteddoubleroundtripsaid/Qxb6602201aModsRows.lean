/-
  No cell of these rows narrows 'for every input' (looked for: loops, veiled, ifaces, maps, wideKeys, modest, calm, conditions, laid).
  DERIVED. THE GIVEN ROWS OF THIS SEAT. 4 by the template 'for every input the law returns true; each argument reads behind the call as it read before'; 0 by the template 'total and deterministic' (their statements: Qxb6602201aModsTotals.lean).
  GIVEN WITH THE SEED: the statements are not yours to turn. If you find one false, say at which input.
  Laid BY PROGRAM, IN A SANDBOX (cutbox-rows.mjs): the forced cells as the released guide's own fill.sh prints them over the translation 2a012a5b494e3ab4… (all of the seat's roots in one cut). By AI agents, Wed Nov 11 2026. No macro, syntax, notation, axiom, sorry.
-/
import Derived.Test.Qxb6602201aModsChecked
import GoSem.Claim
import GoSem.ClaimJoined
import GoSem.ClaimMapViews
import Derived.JoinedTies
import Derived.KernelRfl
namespace Go.Proofs.Qxb6602201aMods
/- THE CELL 'sum', in the pinned program and in every row, IS THE sha256 OF THE DUMP (.gsa) THAT Qxb6602201aModsProg.lean LOADS. Nothing in Lean hashes anything: it is a label: what it is worth is what the hold of that sum in a sandbox is worth. -/
noncomputable def Trym.pinned : Pinned := { name := "qxb6602201amods", sum := "2a012a5b494e3ab438d368297d0fd212c30e2107a4c3b9775cf18b1942f2fff4", checked := Trym.checked }
namespace Rows
def none {H : Type} : Left H := { results := [], args := [] }

/-- 'zzlaws_internal_manifest_b1.FnQuotedSingleRoundTrip': WHATEVER THE INPUT: true; the input reads as it did. -/
def fnQuotedSingleRoundTripSpec : ChangeSpec := { name := "fnQuotedSingleRoundTrip", fn := fun _ => fun
  | [d1, d2] => { results := [.lit (.bool true)], args := [d1, d2] }
  | _ => none }
def fnQuotedSingleRoundTripRow : OpenClaim := { program := "qxb6602201amods", sum := "2a012a5b494e3ab438d368297d0fd212c30e2107a4c3b9775cf18b1942f2fff4", func := "example.com/kapici/kapici/zzlaws_internal_manifest_b1.FnQuotedSingleRoundTrip", spec := "fnQuotedSingleRoundTrip", make := .lifted ["publicsums"], apart := false }
def FnQuotedSingleRoundTripSaid : Prop := fnQuotedSingleRoundTripRow.holds Trym.pinned (OpenSpec.ofChange fnQuotedSingleRoundTripSpec)

/-- ITS FALSE NEIGHBOUR: 'it returns false'. Refute it at one input. -/
def fnQuotedSingleRoundTripWrong : ChangeSpec := { name := "fnQuotedSingleRoundTrip", fn := fun _ => fun
  | [d1, d2] => { results := [.lit (.bool false)], args := [d1, d2] }
  | _ => none }
def FnQuotedSingleRoundTripWrongFalsely : Prop := fnQuotedSingleRoundTripRow.holds Trym.pinned (OpenSpec.ofChange fnQuotedSingleRoundTripWrong)

/-- 'zzlaws_internal_manifest_b1.FnQuotedDoubleRoundTrip': WHATEVER THE INPUT: true; the input reads as it did. -/
def fnQuotedDoubleRoundTripSpec : ChangeSpec := { name := "fnQuotedDoubleRoundTrip", fn := fun _ => fun
  | [d1, d2] => { results := [.lit (.bool true)], args := [d1, d2] }
  | _ => none }
def fnQuotedDoubleRoundTripRow : OpenClaim := { program := "qxb6602201amods", sum := "2a012a5b494e3ab438d368297d0fd212c30e2107a4c3b9775cf18b1942f2fff4", func := "example.com/kapici/kapici/zzlaws_internal_manifest_b1.FnQuotedDoubleRoundTrip", spec := "fnQuotedDoubleRoundTrip", make := .lifted ["publicsums"], apart := false }
def FnQuotedDoubleRoundTripSaid : Prop := fnQuotedDoubleRoundTripRow.holds Trym.pinned (OpenSpec.ofChange fnQuotedDoubleRoundTripSpec)

/-- ITS FALSE NEIGHBOUR: 'it returns false'. Refute it at one input. -/
def fnQuotedDoubleRoundTripWrong : ChangeSpec := { name := "fnQuotedDoubleRoundTrip", fn := fun _ => fun
  | [d1, d2] => { results := [.lit (.bool false)], args := [d1, d2] }
  | _ => none }
def FnQuotedDoubleRoundTripWrongFalsely : Prop := fnQuotedDoubleRoundTripRow.holds Trym.pinned (OpenSpec.ofChange fnQuotedDoubleRoundTripWrong)

/-- 'zzlaws_internal_manifest_b1.FnBlockScalarChompingFamily': WHATEVER THE INPUT: true; the input reads as it did. -/
def fnBlockScalarChompingFamilySpec : ChangeSpec := { name := "fnBlockScalarChompingFamily", fn := fun _ => fun
  | [d1, d2, d3, d4, d5] => { results := [.lit (.bool true)], args := [d1, d2, d3, d4, d5] }
  | _ => none }
def fnBlockScalarChompingFamilyRow : OpenClaim := { program := "qxb6602201amods", sum := "2a012a5b494e3ab438d368297d0fd212c30e2107a4c3b9775cf18b1942f2fff4", func := "example.com/kapici/kapici/zzlaws_internal_manifest_b1.FnBlockScalarChompingFamily", spec := "fnBlockScalarChompingFamily", make := .lifted ["publicsums"], apart := false }
def FnBlockScalarChompingFamilySaid : Prop := fnBlockScalarChompingFamilyRow.holds Trym.pinned (OpenSpec.ofChange fnBlockScalarChompingFamilySpec)

/-- ITS FALSE NEIGHBOUR: 'it returns false'. Refute it at one input. -/
def fnBlockScalarChompingFamilyWrong : ChangeSpec := { name := "fnBlockScalarChompingFamily", fn := fun _ => fun
  | [d1, d2, d3, d4, d5] => { results := [.lit (.bool false)], args := [d1, d2, d3, d4, d5] }
  | _ => none }
def FnBlockScalarChompingFamilyWrongFalsely : Prop := fnBlockScalarChompingFamilyRow.holds Trym.pinned (OpenSpec.ofChange fnBlockScalarChompingFamilyWrong)

/-- 'zzlaws_internal_manifest_b1.FnBlockScalarFoldingReadsSameLines': WHATEVER THE INPUT: true; the input reads as it did. -/
def fnBlockScalarFoldingReadsSameLinesSpec : ChangeSpec := { name := "fnBlockScalarFoldingReadsSameLines", fn := fun _ => fun
  | [d1, d2, d3, d4, d5] => { results := [.lit (.bool true)], args := [d1, d2, d3, d4, d5] }
  | _ => none }
def fnBlockScalarFoldingReadsSameLinesRow : OpenClaim := { program := "qxb6602201amods", sum := "2a012a5b494e3ab438d368297d0fd212c30e2107a4c3b9775cf18b1942f2fff4", func := "example.com/kapici/kapici/zzlaws_internal_manifest_b1.FnBlockScalarFoldingReadsSameLines", spec := "fnBlockScalarFoldingReadsSameLines", make := .lifted ["publicsums"], apart := false }
def FnBlockScalarFoldingReadsSameLinesSaid : Prop := fnBlockScalarFoldingReadsSameLinesRow.holds Trym.pinned (OpenSpec.ofChange fnBlockScalarFoldingReadsSameLinesSpec)

/-- ITS FALSE NEIGHBOUR: 'it returns false'. Refute it at one input. -/
def fnBlockScalarFoldingReadsSameLinesWrong : ChangeSpec := { name := "fnBlockScalarFoldingReadsSameLines", fn := fun _ => fun
  | [d1, d2, d3, d4, d5] => { results := [.lit (.bool false)], args := [d1, d2, d3, d4, d5] }
  | _ => none }
def FnBlockScalarFoldingReadsSameLinesWrongFalsely : Prop := fnBlockScalarFoldingReadsSameLinesRow.holds Trym.pinned (OpenSpec.ofChange fnBlockScalarFoldingReadsSameLinesWrong)

end Rows
end Go.Proofs.Qxb6602201aMods
