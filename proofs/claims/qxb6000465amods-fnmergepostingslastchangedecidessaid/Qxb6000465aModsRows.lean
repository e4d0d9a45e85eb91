/-
  No cell of these rows narrows 'for every input' (looked for: loops, veiled, ifaces, maps, wideKeys, modest, calm, conditions, laid).
  DERIVED. THE GIVEN ROWS OF THIS SEAT. 7 by the template 'for every input the law returns true; each argument reads behind the call as it read before'; 0 by the template 'total and deterministic' (their statements: Qxb6000465aModsTotals.lean).
  GIVEN WITH THE SEED: the statements are not yours to turn. If you find one false, say at which input.
  Laid BY PROGRAM, IN A SANDBOX (cutbox-rows.mjs): the forced cells as the released guide's own fill.sh prints them over the translation b88c07f9e5588045… (all of the seat's roots in one cut). By AI agents, Wed Nov 11 2026. No macro, syntax, notation, axiom, sorry.
-/
import Derived.Test.Qxb6000465aModsChecked
import GoSem.Claim
import GoSem.ClaimJoined
import GoSem.ClaimMapViews
import Derived.JoinedTies
import Derived.KernelRfl
namespace Go.Proofs.Qxb6000465aMods
/- THE CELL 'sum', in the pinned program and in every row, IS THE sha256 OF THE DUMP (.gsa) THAT Qxb6000465aModsProg.lean LOADS. Nothing in Lean hashes anything: it is a label: what it is worth is what the hold of that sum in a sandbox is worth. -/
noncomputable def Trym.pinned : Pinned := { name := "qxb6000465amods", sum := "b88c07f9e558804560f392abc0a68c2478a84a7fd2613ada84b52a493a84d888", checked := Trym.checked }
namespace Rows
def none {H : Type} : Left H := { results := [], args := [] }

/-- 'zzlaws_internal_store_b1.FnNumberMatchesAutomaton': WHATEVER THE INPUT: true; the input reads as it did. -/
def fnNumberMatchesAutomatonSpec : ChangeSpec := { name := "fnNumberMatchesAutomaton", fn := fun _ => fun
  | [d1, d2] => { results := [.lit (.bool true)], args := [d1, d2] }
  | _ => none }
def fnNumberMatchesAutomatonRow : OpenClaim := { program := "qxb6000465amods", sum := "b88c07f9e558804560f392abc0a68c2478a84a7fd2613ada84b52a493a84d888", func := "example.com/mindledger/mindledger/zzlaws_internal_store_b1.FnNumberMatchesAutomaton", spec := "fnNumberMatchesAutomaton", make := .lifted ["publicsums"], apart := false }
def FnNumberMatchesAutomatonSaid : Prop := fnNumberMatchesAutomatonRow.holds Trym.pinned (OpenSpec.ofChange fnNumberMatchesAutomatonSpec)

/-- ITS FALSE NEIGHBOUR: 'it returns false'. Refute it at one input. -/
def fnNumberMatchesAutomatonWrong : ChangeSpec := { name := "fnNumberMatchesAutomaton", fn := fun _ => fun
  | [d1, d2] => { results := [.lit (.bool false)], args := [d1, d2] }
  | _ => none }
def FnNumberMatchesAutomatonWrongFalsely : Prop := fnNumberMatchesAutomatonRow.holds Trym.pinned (OpenSpec.ofChange fnNumberMatchesAutomatonWrong)

/-- 'zzlaws_internal_store_b1.FnNumberShiftAndSelfContained': WHATEVER THE INPUT: true; the input reads as it did. -/
def fnNumberShiftAndSelfContainedSpec : ChangeSpec := { name := "fnNumberShiftAndSelfContained", fn := fun _ => fun
  | [d1, d2] => { results := [.lit (.bool true)], args := [d1, d2] }
  | _ => none }
def fnNumberShiftAndSelfContainedRow : OpenClaim := { program := "qxb6000465amods", sum := "b88c07f9e558804560f392abc0a68c2478a84a7fd2613ada84b52a493a84d888", func := "example.com/mindledger/mindledger/zzlaws_internal_store_b1.FnNumberShiftAndSelfContained", spec := "fnNumberShiftAndSelfContained", make := .lifted ["publicsums"], apart := false }
def FnNumberShiftAndSelfContainedSaid : Prop := fnNumberShiftAndSelfContainedRow.holds Trym.pinned (OpenSpec.ofChange fnNumberShiftAndSelfContainedSpec)

/-- ITS FALSE NEIGHBOUR: 'it returns false'. Refute it at one input. -/
def fnNumberShiftAndSelfContainedWrong : ChangeSpec := { name := "fnNumberShiftAndSelfContained", fn := fun _ => fun
  | [d1, d2] => { results := [.lit (.bool false)], args := [d1, d2] }
  | _ => none }
def FnNumberShiftAndSelfContainedWrongFalsely : Prop := fnNumberShiftAndSelfContainedRow.holds Trym.pinned (OpenSpec.ofChange fnNumberShiftAndSelfContainedWrong)

/-- 'zzlaws_internal_store_b1.FnSqlSpanTilesText': WHATEVER THE INPUT: true; the input reads as it did. -/
def fnSqlSpanTilesTextSpec : ChangeSpec := { name := "fnSqlSpanTilesText", fn := fun _ => fun
  | [d] => { results := [.lit (.bool true)], args := [d] }
  | _ => none }
def fnSqlSpanTilesTextRow : OpenClaim := { program := "qxb6000465amods", sum := "b88c07f9e558804560f392abc0a68c2478a84a7fd2613ada84b52a493a84d888", func := "example.com/mindledger/mindledger/zzlaws_internal_store_b1.FnSqlSpanTilesText", spec := "fnSqlSpanTilesText", inPlace := ["internal/bytealg.IndexByteString", "internal/bytealg.IndexString"], named := ["internal/bytealg.MaxLen"], make := .lifted ["publicsums"], apart := false }
def FnSqlSpanTilesTextSaid : Prop := fnSqlSpanTilesTextRow.holds Trym.pinned (OpenSpec.ofChange fnSqlSpanTilesTextSpec)

/-- ITS FALSE NEIGHBOUR: 'it returns false'. Refute it at one input. -/
def fnSqlSpanTilesTextWrong : ChangeSpec := { name := "fnSqlSpanTilesText", fn := fun _ => fun
  | [d] => { results := [.lit (.bool false)], args := [d] }
  | _ => none }
def FnSqlSpanTilesTextWrongFalsely : Prop := fnSqlSpanTilesTextRow.holds Trym.pinned (OpenSpec.ofChange fnSqlSpanTilesTextWrong)

/-- 'zzlaws_internal_store_b1.FnSqlSpanDecidedByItsOwnBytes': WHATEVER THE INPUT: true; the input reads as it did. -/
def fnSqlSpanDecidedByItsOwnBytesSpec : ChangeSpec := { name := "fnSqlSpanDecidedByItsOwnBytes", fn := fun _ => fun
  | [d] => { results := [.lit (.bool true)], args := [d] }
  | _ => none }
def fnSqlSpanDecidedByItsOwnBytesRow : OpenClaim := { program := "qxb6000465amods", sum := "b88c07f9e558804560f392abc0a68c2478a84a7fd2613ada84b52a493a84d888", func := "example.com/mindledger/mindledger/zzlaws_internal_store_b1.FnSqlSpanDecidedByItsOwnBytes", spec := "fnSqlSpanDecidedByItsOwnBytes", inPlace := ["internal/bytealg.IndexByteString", "internal/bytealg.IndexString"], named := ["internal/bytealg.MaxLen"], make := .lifted ["publicsums"], apart := false }
def FnSqlSpanDecidedByItsOwnBytesSaid : Prop := fnSqlSpanDecidedByItsOwnBytesRow.holds Trym.pinned (OpenSpec.ofChange fnSqlSpanDecidedByItsOwnBytesSpec)

/-- ITS FALSE NEIGHBOUR: 'it returns false'. Refute it at one input. -/
def fnSqlSpanDecidedByItsOwnBytesWrong : ChangeSpec := { name := "fnSqlSpanDecidedByItsOwnBytes", fn := fun _ => fun
  | [d] => { results := [.lit (.bool false)], args := [d] }
  | _ => none }
def FnSqlSpanDecidedByItsOwnBytesWrongFalsely : Prop := fnSqlSpanDecidedByItsOwnBytesRow.holds Trym.pinned (OpenSpec.ofChange fnSqlSpanDecidedByItsOwnBytesWrong)

/-- 'zzlaws_internal_store_b1.FnSqlSpanEndsWhereDocSays': WHATEVER THE INPUT: true; the input reads as it did. -/
def fnSqlSpanEndsWhereDocSaysSpec : ChangeSpec := { name := "fnSqlSpanEndsWhereDocSays", fn := fun _ => fun
  | [d] => { results := [.lit (.bool true)], args := [d] }
  | _ => none }
def fnSqlSpanEndsWhereDocSaysRow : OpenClaim := { program := "qxb6000465amods", sum := "b88c07f9e558804560f392abc0a68c2478a84a7fd2613ada84b52a493a84d888", func := "example.com/mindledger/mindledger/zzlaws_internal_store_b1.FnSqlSpanEndsWhereDocSays", spec := "fnSqlSpanEndsWhereDocSays", inPlace := ["internal/bytealg.IndexByteString", "internal/bytealg.IndexString"], named := ["internal/bytealg.MaxLen"], make := .lifted ["publicsums"], apart := false }
def FnSqlSpanEndsWhereDocSaysSaid : Prop := fnSqlSpanEndsWhereDocSaysRow.holds Trym.pinned (OpenSpec.ofChange fnSqlSpanEndsWhereDocSaysSpec)

/-- ITS FALSE NEIGHBOUR: 'it returns false'. Refute it at one input. -/
def fnSqlSpanEndsWhereDocSaysWrong : ChangeSpec := { name := "fnSqlSpanEndsWhereDocSays", fn := fun _ => fun
  | [d] => { results := [.lit (.bool false)], args := [d] }
  | _ => none }
def FnSqlSpanEndsWhereDocSaysWrongFalsely : Prop := fnSqlSpanEndsWhereDocSaysRow.holds Trym.pinned (OpenSpec.ofChange fnSqlSpanEndsWhereDocSaysWrong)

/-- 'zzlaws_internal_store_b1.FnMergePostingsLastChangeDecides': WHATEVER THE INPUT: true; the input reads as it did. -/
def fnMergePostingsLastChangeDecidesSpec : ChangeSpec := { name := "fnMergePostingsLastChangeDecides", fn := fun _ => fun
  | [d1, d2] => { results := [.lit (.bool true)], args := [d1, d2] }
  | _ => none }
def fnMergePostingsLastChangeDecidesRow : OpenClaim := { program := "qxb6000465amods", sum := "b88c07f9e558804560f392abc0a68c2478a84a7fd2613ada84b52a493a84d888", func := "example.com/mindledger/mindledger/zzlaws_internal_store_b1.FnMergePostingsLastChangeDecides", spec := "fnMergePostingsLastChangeDecides", make := .lifted ["publicsums"], apart := false }
def FnMergePostingsLastChangeDecidesSaid : Prop := fnMergePostingsLastChangeDecidesRow.holds Trym.pinned (OpenSpec.ofChange fnMergePostingsLastChangeDecidesSpec)

/-- ITS FALSE NEIGHBOUR: 'it returns false'. Refute it at one input. -/
def fnMergePostingsLastChangeDecidesWrong : ChangeSpec := { name := "fnMergePostingsLastChangeDecides", fn := fun _ => fun
  | [d1, d2] => { results := [.lit (.bool false)], args := [d1, d2] }
  | _ => none }
def FnMergePostingsLastChangeDecidesWrongFalsely : Prop := fnMergePostingsLastChangeDecidesRow.holds Trym.pinned (OpenSpec.ofChange fnMergePostingsLastChangeDecidesWrong)

/-- 'zzlaws_internal_store_b1.FnMergePostingsBatchesCompose': WHATEVER THE INPUT: true; the input reads as it did. -/
def fnMergePostingsBatchesComposeSpec : ChangeSpec := { name := "fnMergePostingsBatchesCompose", fn := fun _ => fun
  | [d1, d2, d3] => { results := [.lit (.bool true)], args := [d1, d2, d3] }
  | _ => none }
def fnMergePostingsBatchesComposeRow : OpenClaim := { program := "qxb6000465amods", sum := "b88c07f9e558804560f392abc0a68c2478a84a7fd2613ada84b52a493a84d888", func := "example.com/mindledger/mindledger/zzlaws_internal_store_b1.FnMergePostingsBatchesCompose", spec := "fnMergePostingsBatchesCompose", make := .lifted ["publicsums"], apart := false }
def FnMergePostingsBatchesComposeSaid : Prop := fnMergePostingsBatchesComposeRow.holds Trym.pinned (OpenSpec.ofChange fnMergePostingsBatchesComposeSpec)

/-- ITS FALSE NEIGHBOUR: 'it returns false'. Refute it at one input. -/
def fnMergePostingsBatchesComposeWrong : ChangeSpec := { name := "fnMergePostingsBatchesCompose", fn := fun _ => fun
  | [d1, d2, d3] => { results := [.lit (.bool false)], args := [d1, d2, d3] }
  | _ => none }
def FnMergePostingsBatchesComposeWrongFalsely : Prop := fnMergePostingsBatchesComposeRow.holds Trym.pinned (OpenSpec.ofChange fnMergePostingsBatchesComposeWrong)

end Rows
end Go.Proofs.Qxb6000465aMods
