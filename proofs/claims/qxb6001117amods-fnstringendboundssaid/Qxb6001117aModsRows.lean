/-
  No cell of these rows narrows 'for every input' (looked for: loops, veiled, ifaces, maps, wideKeys, modest, calm, conditions, laid).
  DERIVED. THE GIVEN ROWS OF THIS SEAT. 6 by the template 'for every input the law returns true; each argument reads behind the call as it read before'; 0 by the template 'total and deterministic' (their statements: Qxb6001117aModsTotals.lean).
  GIVEN WITH THE SEED: the statements are not yours to turn. If you find one false, say at which input.
  Laid BY PROGRAM, IN A SANDBOX (cutbox-rows.mjs): the forced cells as the released guide's own fill.sh prints them over the translation f94b64b64bc9538f… (all of the seat's roots in one cut). By AI agents, Wed Nov 11 2026. No macro, syntax, notation, axiom, sorry.
-/
import Derived.Test.Qxb6001117aModsChecked
import GoSem.Claim
import GoSem.ClaimJoined
import GoSem.ClaimMapViews
import Derived.JoinedTies
import Derived.KernelRfl
namespace Go.Proofs.Qxb6001117aMods
/- THE CELL 'sum', in the pinned program and in every row, IS THE sha256 OF THE DUMP (.gsa) THAT Qxb6001117aModsProg.lean LOADS. Nothing in Lean hashes anything: it is a label: what it is worth is what the hold of that sum in a sandbox is worth. -/
noncomputable def Trym.pinned : Pinned := { name := "qxb6001117amods", sum := "f94b64b64bc9538fd4f4526f14158a77bd3892bc585f7508fecb57a5ebfbdd22", checked := Trym.checked }
namespace Rows
def none {H : Type} : Left H := { results := [], args := [] }

/-- 'zzlaws_format_toml_b1.FnStringEndBounds': WHATEVER THE INPUT: true; the input reads as it did. -/
def fnStringEndBoundsSpec : ChangeSpec := { name := "fnStringEndBounds", fn := fun _ => fun
  | [d1, d2] => { results := [.lit (.bool true)], args := [d1, d2] }
  | _ => none }
def fnStringEndBoundsRow : OpenClaim := { program := "qxb6001117amods", sum := "f94b64b64bc9538fd4f4526f14158a77bd3892bc585f7508fecb57a5ebfbdd22", func := "example.com/setpoint/setpoint/zzlaws_format_toml_b1.FnStringEndBounds", spec := "fnStringEndBounds", make := .lifted ["publicsums"], apart := false }
def FnStringEndBoundsSaid : Prop := fnStringEndBoundsRow.holds Trym.pinned (OpenSpec.ofChange fnStringEndBoundsSpec)

/-- ITS FALSE NEIGHBOUR: 'it returns false'. Refute it at one input. -/
def fnStringEndBoundsWrong : ChangeSpec := { name := "fnStringEndBounds", fn := fun _ => fun
  | [d1, d2] => { results := [.lit (.bool false)], args := [d1, d2] }
  | _ => none }
def FnStringEndBoundsWrongFalsely : Prop := fnStringEndBoundsRow.holds Trym.pinned (OpenSpec.ofChange fnStringEndBoundsWrong)

/-- 'zzlaws_format_toml_b1.FnStringEndPrefix': WHATEVER THE INPUT: true; the input reads as it did. -/
def fnStringEndPrefixSpec : ChangeSpec := { name := "fnStringEndPrefix", fn := fun _ => fun
  | [d1, d2, d3] => { results := [.lit (.bool true)], args := [d1, d2, d3] }
  | _ => none }
def fnStringEndPrefixRow : OpenClaim := { program := "qxb6001117amods", sum := "f94b64b64bc9538fd4f4526f14158a77bd3892bc585f7508fecb57a5ebfbdd22", func := "example.com/setpoint/setpoint/zzlaws_format_toml_b1.FnStringEndPrefix", spec := "fnStringEndPrefix", make := .lifted ["publicsums"], apart := false }
def FnStringEndPrefixSaid : Prop := fnStringEndPrefixRow.holds Trym.pinned (OpenSpec.ofChange fnStringEndPrefixSpec)

/-- ITS FALSE NEIGHBOUR: 'it returns false'. Refute it at one input. -/
def fnStringEndPrefixWrong : ChangeSpec := { name := "fnStringEndPrefix", fn := fun _ => fun
  | [d1, d2, d3] => { results := [.lit (.bool false)], args := [d1, d2, d3] }
  | _ => none }
def FnStringEndPrefixWrongFalsely : Prop := fnStringEndPrefixRow.holds Trym.pinned (OpenSpec.ofChange fnStringEndPrefixWrong)

/-- 'zzlaws_format_toml_b1.FnStringEndTail': WHATEVER THE INPUT: true; the input reads as it did. -/
def fnStringEndTailSpec : ChangeSpec := { name := "fnStringEndTail", fn := fun _ => fun
  | [d1, d2, d3] => { results := [.lit (.bool true)], args := [d1, d2, d3] }
  | _ => none }
def fnStringEndTailRow : OpenClaim := { program := "qxb6001117amods", sum := "f94b64b64bc9538fd4f4526f14158a77bd3892bc585f7508fecb57a5ebfbdd22", func := "example.com/setpoint/setpoint/zzlaws_format_toml_b1.FnStringEndTail", spec := "fnStringEndTail", make := .lifted ["publicsums"], apart := false }
def FnStringEndTailSaid : Prop := fnStringEndTailRow.holds Trym.pinned (OpenSpec.ofChange fnStringEndTailSpec)

/-- ITS FALSE NEIGHBOUR: 'it returns false'. Refute it at one input. -/
def fnStringEndTailWrong : ChangeSpec := { name := "fnStringEndTail", fn := fun _ => fun
  | [d1, d2, d3] => { results := [.lit (.bool false)], args := [d1, d2, d3] }
  | _ => none }
def FnStringEndTailWrongFalsely : Prop := fnStringEndTailRow.holds Trym.pinned (OpenSpec.ofChange fnStringEndTailWrong)

/-- 'zzlaws_format_toml_b1.FnDeepBracketFewOpeners': WHATEVER THE INPUT: true; the input reads as it did. -/
def fnDeepBracketFewOpenersSpec : ChangeSpec := { name := "fnDeepBracketFewOpeners", fn := fun _ => fun
  | [d] => { results := [.lit (.bool true)], args := [d] }
  | _ => none }
def fnDeepBracketFewOpenersRow : OpenClaim := { program := "qxb6001117amods", sum := "f94b64b64bc9538fd4f4526f14158a77bd3892bc585f7508fecb57a5ebfbdd22", func := "example.com/setpoint/setpoint/zzlaws_format_toml_b1.FnDeepBracketFewOpeners", spec := "fnDeepBracketFewOpeners", inPlace := ["internal/bytealg.IndexByte"], make := .lifted ["publicsums"], apart := false }
def FnDeepBracketFewOpenersSaid : Prop := fnDeepBracketFewOpenersRow.holds Trym.pinned (OpenSpec.ofChange fnDeepBracketFewOpenersSpec)

/-- ITS FALSE NEIGHBOUR: 'it returns false'. Refute it at one input. -/
def fnDeepBracketFewOpenersWrong : ChangeSpec := { name := "fnDeepBracketFewOpeners", fn := fun _ => fun
  | [d] => { results := [.lit (.bool false)], args := [d] }
  | _ => none }
def FnDeepBracketFewOpenersWrongFalsely : Prop := fnDeepBracketFewOpenersRow.holds Trym.pinned (OpenSpec.ofChange fnDeepBracketFewOpenersWrong)

/-- 'zzlaws_format_toml_b1.FnDeepBracketPrefixAndTail': WHATEVER THE INPUT: true; the input reads as it did. -/
def fnDeepBracketPrefixAndTailSpec : ChangeSpec := { name := "fnDeepBracketPrefixAndTail", fn := fun _ => fun
  | [d1, d2, d3] => { results := [.lit (.bool true)], args := [d1, d2, d3] }
  | _ => none }
def fnDeepBracketPrefixAndTailRow : OpenClaim := { program := "qxb6001117amods", sum := "f94b64b64bc9538fd4f4526f14158a77bd3892bc585f7508fecb57a5ebfbdd22", func := "example.com/setpoint/setpoint/zzlaws_format_toml_b1.FnDeepBracketPrefixAndTail", spec := "fnDeepBracketPrefixAndTail", inPlace := ["internal/bytealg.IndexByte"], make := .lifted ["publicsums"], apart := false }
def FnDeepBracketPrefixAndTailSaid : Prop := fnDeepBracketPrefixAndTailRow.holds Trym.pinned (OpenSpec.ofChange fnDeepBracketPrefixAndTailSpec)

/-- ITS FALSE NEIGHBOUR: 'it returns false'. Refute it at one input. -/
def fnDeepBracketPrefixAndTailWrong : ChangeSpec := { name := "fnDeepBracketPrefixAndTail", fn := fun _ => fun
  | [d1, d2, d3] => { results := [.lit (.bool false)], args := [d1, d2, d3] }
  | _ => none }
def FnDeepBracketPrefixAndTailWrongFalsely : Prop := fnDeepBracketPrefixAndTailRow.holds Trym.pinned (OpenSpec.ofChange fnDeepBracketPrefixAndTailWrong)

/-- 'zzlaws_format_toml_b1.FnDeepBracketCommentShift': WHATEVER THE INPUT: true; the input reads as it did. -/
def fnDeepBracketCommentShiftSpec : ChangeSpec := { name := "fnDeepBracketCommentShift", fn := fun _ => fun
  | [d1, d2] => { results := [.lit (.bool true)], args := [d1, d2] }
  | _ => none }
def fnDeepBracketCommentShiftRow : OpenClaim := { program := "qxb6001117amods", sum := "f94b64b64bc9538fd4f4526f14158a77bd3892bc585f7508fecb57a5ebfbdd22", func := "example.com/setpoint/setpoint/zzlaws_format_toml_b1.FnDeepBracketCommentShift", spec := "fnDeepBracketCommentShift", inPlace := ["internal/bytealg.IndexByte"], make := .lifted ["publicsums"], apart := false }
def FnDeepBracketCommentShiftSaid : Prop := fnDeepBracketCommentShiftRow.holds Trym.pinned (OpenSpec.ofChange fnDeepBracketCommentShiftSpec)

/-- ITS FALSE NEIGHBOUR: 'it returns false'. Refute it at one input. -/
def fnDeepBracketCommentShiftWrong : ChangeSpec := { name := "fnDeepBracketCommentShift", fn := fun _ => fun
  | [d1, d2] => { results := [.lit (.bool false)], args := [d1, d2] }
  | _ => none }
def FnDeepBracketCommentShiftWrongFalsely : Prop := fnDeepBracketCommentShiftRow.holds Trym.pinned (OpenSpec.ofChange fnDeepBracketCommentShiftWrong)

end Rows
end Go.Proofs.Qxb6001117aMods
