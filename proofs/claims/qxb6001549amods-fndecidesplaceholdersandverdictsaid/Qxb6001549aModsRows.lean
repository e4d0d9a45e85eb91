/-
  No cell of these rows narrows 'for every input' (looked for: loops, veiled, ifaces, maps, wideKeys, modest, calm, conditions, laid).
  DERIVED. THE GIVEN ROWS OF THIS SEAT. 5 by the template 'for every input the law returns true; each argument reads behind the call as it read before'; 0 by the template 'total and deterministic' (their statements: Qxb6001549aModsTotals.lean).
  GIVEN WITH THE SEED: the statements are not yours to turn. If you find one false, say at which input.
  Laid BY PROGRAM, IN A SANDBOX (cutbox-rows.mjs): the forced cells as the released guide's own fill.sh prints them over the translation a4b51e8560140bfa… (all of the seat's roots in one cut). By AI agents, Wed Nov 11 2026. No macro, syntax, notation, axiom, sorry.
-/
import Derived.Test.Qxb6001549aModsChecked
import GoSem.Claim
import GoSem.ClaimJoined
import GoSem.ClaimMapViews
import Derived.JoinedTies
import Derived.KernelRfl
namespace Go.Proofs.Qxb6001549aMods
/- THE CELL 'sum', in the pinned program and in every row, IS THE sha256 OF THE DUMP (.gsa) THAT Qxb6001549aModsProg.lean LOADS. Nothing in Lean hashes anything: it is a label: what it is worth is what the hold of that sum in a sandbox is worth. -/
noncomputable def Trym.pinned : Pinned := { name := "qxb6001549amods", sum := "a4b51e8560140bfa434ac558734e8f3db1ab4b91de3e284c0b7b69fd352b6d4f", checked := Trym.checked }
namespace Rows
def none {H : Type} : Left H := { results := [], args := [] }

/-- 'zzlaws_store_b1.FnUngroupRoundTrip': WHATEVER THE INPUT: true; the input reads as it did. -/
def fnUngroupRoundTripSpec : ChangeSpec := { name := "fnUngroupRoundTrip", fn := fun _ => fun
  | [d1, d2, d3] => { results := [.lit (.bool true)], args := [d1, d2, d3] }
  | _ => none }
def fnUngroupRoundTripRow : OpenClaim := { program := "qxb6001549amods", sum := "a4b51e8560140bfa434ac558734e8f3db1ab4b91de3e284c0b7b69fd352b6d4f", func := "example.com/cartulary/cartulary/zzlaws_store_b1.FnUngroupRoundTrip", spec := "fnUngroupRoundTrip", inPlace := ["internal/abi.NoEscape"], make := .lifted ["publicsums"], apart := false }
def FnUngroupRoundTripSaid : Prop := fnUngroupRoundTripRow.holds Trym.pinned (OpenSpec.ofChange fnUngroupRoundTripSpec)

/-- ITS FALSE NEIGHBOUR: 'it returns false'. Refute it at one input. -/
def fnUngroupRoundTripWrong : ChangeSpec := { name := "fnUngroupRoundTrip", fn := fun _ => fun
  | [d1, d2, d3] => { results := [.lit (.bool false)], args := [d1, d2, d3] }
  | _ => none }
def FnUngroupRoundTripWrongFalsely : Prop := fnUngroupRoundTripRow.holds Trym.pinned (OpenSpec.ofChange fnUngroupRoundTripWrong)

/-- 'zzlaws_store_b1.FnUngroupAcceptedRegroups': WHATEVER THE INPUT: true; the input reads as it did. -/
def fnUngroupAcceptedRegroupsSpec : ChangeSpec := { name := "fnUngroupAcceptedRegroups", fn := fun _ => fun
  | [d1, d2, d3] => { results := [.lit (.bool true)], args := [d1, d2, d3] }
  | _ => none }
def fnUngroupAcceptedRegroupsRow : OpenClaim := { program := "qxb6001549amods", sum := "a4b51e8560140bfa434ac558734e8f3db1ab4b91de3e284c0b7b69fd352b6d4f", func := "example.com/cartulary/cartulary/zzlaws_store_b1.FnUngroupAcceptedRegroups", spec := "fnUngroupAcceptedRegroups", inPlace := ["internal/abi.NoEscape"], make := .lifted ["publicsums"], apart := false }
def FnUngroupAcceptedRegroupsSaid : Prop := fnUngroupAcceptedRegroupsRow.holds Trym.pinned (OpenSpec.ofChange fnUngroupAcceptedRegroupsSpec)

/-- ITS FALSE NEIGHBOUR: 'it returns false'. Refute it at one input. -/
def fnUngroupAcceptedRegroupsWrong : ChangeSpec := { name := "fnUngroupAcceptedRegroups", fn := fun _ => fun
  | [d1, d2, d3] => { results := [.lit (.bool false)], args := [d1, d2, d3] }
  | _ => none }
def FnUngroupAcceptedRegroupsWrongFalsely : Prop := fnUngroupAcceptedRegroupsRow.holds Trym.pinned (OpenSpec.ofChange fnUngroupAcceptedRegroupsWrong)

/-- 'zzlaws_store_b1.FnUngroupRefusesBrokenSeparator': WHATEVER THE INPUT: true; the input reads as it did. -/
def fnUngroupRefusesBrokenSeparatorSpec : ChangeSpec := { name := "fnUngroupRefusesBrokenSeparator", fn := fun _ => fun
  | [d1, d2, d3, d4, d5] => { results := [.lit (.bool true)], args := [d1, d2, d3, d4, d5] }
  | _ => none }
def fnUngroupRefusesBrokenSeparatorRow : OpenClaim := { program := "qxb6001549amods", sum := "a4b51e8560140bfa434ac558734e8f3db1ab4b91de3e284c0b7b69fd352b6d4f", func := "example.com/cartulary/cartulary/zzlaws_store_b1.FnUngroupRefusesBrokenSeparator", spec := "fnUngroupRefusesBrokenSeparator", inPlace := ["internal/abi.NoEscape"], make := .lifted ["publicsums"], apart := false }
def FnUngroupRefusesBrokenSeparatorSaid : Prop := fnUngroupRefusesBrokenSeparatorRow.holds Trym.pinned (OpenSpec.ofChange fnUngroupRefusesBrokenSeparatorSpec)

/-- ITS FALSE NEIGHBOUR: 'it returns false'. Refute it at one input. -/
def fnUngroupRefusesBrokenSeparatorWrong : ChangeSpec := { name := "fnUngroupRefusesBrokenSeparator", fn := fun _ => fun
  | [d1, d2, d3, d4, d5] => { results := [.lit (.bool false)], args := [d1, d2, d3, d4, d5] }
  | _ => none }
def FnUngroupRefusesBrokenSeparatorWrongFalsely : Prop := fnUngroupRefusesBrokenSeparatorRow.holds Trym.pinned (OpenSpec.ofChange fnUngroupRefusesBrokenSeparatorWrong)

/-- 'zzlaws_store_b1.FnDecidesIgnoresNameAndValue': WHATEVER THE INPUT: true; the input reads as it did. -/
def fnDecidesIgnoresNameAndValueSpec : ChangeSpec := { name := "fnDecidesIgnoresNameAndValue", fn := fun _ => fun
  | [d1, d2, d3, d4, d5, d6] => { results := [.lit (.bool true)], args := [d1, d2, d3, d4, d5, d6] }
  | _ => none }
def fnDecidesIgnoresNameAndValueRow : OpenClaim := { program := "qxb6001549amods", sum := "a4b51e8560140bfa434ac558734e8f3db1ab4b91de3e284c0b7b69fd352b6d4f", func := "example.com/cartulary/cartulary/zzlaws_store_b1.FnDecidesIgnoresNameAndValue", spec := "fnDecidesIgnoresNameAndValue", make := .lifted ["publicsums"], apart := false }
def FnDecidesIgnoresNameAndValueSaid : Prop := fnDecidesIgnoresNameAndValueRow.holds Trym.pinned (OpenSpec.ofChange fnDecidesIgnoresNameAndValueSpec)

/-- ITS FALSE NEIGHBOUR: 'it returns false'. Refute it at one input. -/
def fnDecidesIgnoresNameAndValueWrong : ChangeSpec := { name := "fnDecidesIgnoresNameAndValue", fn := fun _ => fun
  | [d1, d2, d3, d4, d5, d6] => { results := [.lit (.bool false)], args := [d1, d2, d3, d4, d5, d6] }
  | _ => none }
def FnDecidesIgnoresNameAndValueWrongFalsely : Prop := fnDecidesIgnoresNameAndValueRow.holds Trym.pinned (OpenSpec.ofChange fnDecidesIgnoresNameAndValueWrong)

/-- 'zzlaws_store_b1.FnDecidesPlaceholdersAndVerdict': WHATEVER THE INPUT: true; the input reads as it did. -/
def fnDecidesPlaceholdersAndVerdictSpec : ChangeSpec := { name := "fnDecidesPlaceholdersAndVerdict", fn := fun _ => fun
  | [d1, d2, d3, d4] => { results := [.lit (.bool true)], args := [d1, d2, d3, d4] }
  | _ => none }
def fnDecidesPlaceholdersAndVerdictRow : OpenClaim := { program := "qxb6001549amods", sum := "a4b51e8560140bfa434ac558734e8f3db1ab4b91de3e284c0b7b69fd352b6d4f", func := "example.com/cartulary/cartulary/zzlaws_store_b1.FnDecidesPlaceholdersAndVerdict", spec := "fnDecidesPlaceholdersAndVerdict", make := .lifted ["publicsums"], apart := false }
def FnDecidesPlaceholdersAndVerdictSaid : Prop := fnDecidesPlaceholdersAndVerdictRow.holds Trym.pinned (OpenSpec.ofChange fnDecidesPlaceholdersAndVerdictSpec)

/-- ITS FALSE NEIGHBOUR: 'it returns false'. Refute it at one input. -/
def fnDecidesPlaceholdersAndVerdictWrong : ChangeSpec := { name := "fnDecidesPlaceholdersAndVerdict", fn := fun _ => fun
  | [d1, d2, d3, d4] => { results := [.lit (.bool false)], args := [d1, d2, d3, d4] }
  | _ => none }
def FnDecidesPlaceholdersAndVerdictWrongFalsely : Prop := fnDecidesPlaceholdersAndVerdictRow.holds Trym.pinned (OpenSpec.ofChange fnDecidesPlaceholdersAndVerdictWrong)

end Rows
end Go.Proofs.Qxb6001549aMods
