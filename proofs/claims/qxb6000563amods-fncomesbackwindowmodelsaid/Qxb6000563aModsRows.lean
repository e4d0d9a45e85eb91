/-
  No cell of these rows narrows 'for every input' (looked for: loops, veiled, ifaces, maps, wideKeys, modest, calm, conditions, laid).
  DERIVED. THE GIVEN ROWS OF THIS SEAT. 8 by the template 'for every input the law returns true; each argument reads behind the call as it read before'; 0 by the template 'total and deterministic' (their statements: Qxb6000563aModsTotals.lean).
  GIVEN WITH THE SEED: the statements are not yours to turn. If you find one false, say at which input.
  Laid BY PROGRAM, IN A SANDBOX (cutbox-rows.mjs): the forced cells as the released guide's own fill.sh prints them over the translation f504f4bde27fdefa… (all of the seat's roots in one cut). By AI agents, Wed Nov 11 2026. No macro, syntax, notation, axiom, sorry.
-/
import Derived.Test.Qxb6000563aModsChecked
import GoSem.Claim
import GoSem.ClaimJoined
import GoSem.ClaimMapViews
import Derived.JoinedTies
import Derived.KernelRfl
namespace Go.Proofs.Qxb6000563aMods
/- THE CELL 'sum', in the pinned program and in every row, IS THE sha256 OF THE DUMP (.gsa) THAT Qxb6000563aModsProg.lean LOADS. Nothing in Lean hashes anything: it is a label: what it is worth is what the hold of that sum in a sandbox is worth. -/
noncomputable def Trym.pinned : Pinned := { name := "qxb6000563amods", sum := "f504f4bde27fdefa2d47e8ee1c307093bfda5a2d808c02715f13d54d81a8e00c", checked := Trym.checked }
namespace Rows
def none {H : Type} : Left H := { results := [], args := [] }

/-- 'zzlaws_store_b1.FnKindOfPlainTextIsText': WHATEVER THE INPUT: true; the input reads as it did. -/
def fnKindOfPlainTextIsTextSpec : ChangeSpec := { name := "fnKindOfPlainTextIsText", fn := fun _ => fun
  | [d] => { results := [.lit (.bool true)], args := [d] }
  | _ => none }
def fnKindOfPlainTextIsTextRow : OpenClaim := { program := "qxb6000563amods", sum := "f504f4bde27fdefa2d47e8ee1c307093bfda5a2d808c02715f13d54d81a8e00c", func := "example.com/mortise/mortise/zzlaws_store_b1.FnKindOfPlainTextIsText", spec := "fnKindOfPlainTextIsText", make := .lifted ["publicsums"], apart := false }
def FnKindOfPlainTextIsTextSaid : Prop := fnKindOfPlainTextIsTextRow.holds Trym.pinned (OpenSpec.ofChange fnKindOfPlainTextIsTextSpec)

/-- ITS FALSE NEIGHBOUR: 'it returns false'. Refute it at one input. -/
def fnKindOfPlainTextIsTextWrong : ChangeSpec := { name := "fnKindOfPlainTextIsText", fn := fun _ => fun
  | [d] => { results := [.lit (.bool false)], args := [d] }
  | _ => none }
def FnKindOfPlainTextIsTextWrongFalsely : Prop := fnKindOfPlainTextIsTextRow.holds Trym.pinned (OpenSpec.ofChange fnKindOfPlainTextIsTextWrong)

/-- 'zzlaws_store_b1.FnKindOfRecurringControlByteIsBinary': WHATEVER THE INPUT: true; the input reads as it did. -/
def fnKindOfRecurringControlByteIsBinarySpec : ChangeSpec := { name := "fnKindOfRecurringControlByteIsBinary", fn := fun _ => fun
  | [d] => { results := [.lit (.bool true)], args := [d] }
  | _ => none }
def fnKindOfRecurringControlByteIsBinaryRow : OpenClaim := { program := "qxb6000563amods", sum := "f504f4bde27fdefa2d47e8ee1c307093bfda5a2d808c02715f13d54d81a8e00c", func := "example.com/mortise/mortise/zzlaws_store_b1.FnKindOfRecurringControlByteIsBinary", spec := "fnKindOfRecurringControlByteIsBinary", make := .lifted ["publicsums"], apart := false }
def FnKindOfRecurringControlByteIsBinarySaid : Prop := fnKindOfRecurringControlByteIsBinaryRow.holds Trym.pinned (OpenSpec.ofChange fnKindOfRecurringControlByteIsBinarySpec)

/-- ITS FALSE NEIGHBOUR: 'it returns false'. Refute it at one input. -/
def fnKindOfRecurringControlByteIsBinaryWrong : ChangeSpec := { name := "fnKindOfRecurringControlByteIsBinary", fn := fun _ => fun
  | [d] => { results := [.lit (.bool false)], args := [d] }
  | _ => none }
def FnKindOfRecurringControlByteIsBinaryWrongFalsely : Prop := fnKindOfRecurringControlByteIsBinaryRow.holds Trym.pinned (OpenSpec.ofChange fnKindOfRecurringControlByteIsBinaryWrong)

/-- 'zzlaws_store_b1.FnKindOfRandomnessSurvivesByteRenaming': WHATEVER THE INPUT: true; the input reads as it did. -/
def fnKindOfRandomnessSurvivesByteRenamingSpec : ChangeSpec := { name := "fnKindOfRandomnessSurvivesByteRenaming", fn := fun _ => fun
  | [d1, d2] => { results := [.lit (.bool true)], args := [d1, d2] }
  | _ => none }
def fnKindOfRandomnessSurvivesByteRenamingRow : OpenClaim := { program := "qxb6000563amods", sum := "f504f4bde27fdefa2d47e8ee1c307093bfda5a2d808c02715f13d54d81a8e00c", func := "example.com/mortise/mortise/zzlaws_store_b1.FnKindOfRandomnessSurvivesByteRenaming", spec := "fnKindOfRandomnessSurvivesByteRenaming", make := .lifted ["publicsums"], apart := false }
def FnKindOfRandomnessSurvivesByteRenamingSaid : Prop := fnKindOfRandomnessSurvivesByteRenamingRow.holds Trym.pinned (OpenSpec.ofChange fnKindOfRandomnessSurvivesByteRenamingSpec)

/-- ITS FALSE NEIGHBOUR: 'it returns false'. Refute it at one input. -/
def fnKindOfRandomnessSurvivesByteRenamingWrong : ChangeSpec := { name := "fnKindOfRandomnessSurvivesByteRenaming", fn := fun _ => fun
  | [d1, d2] => { results := [.lit (.bool false)], args := [d1, d2] }
  | _ => none }
def FnKindOfRandomnessSurvivesByteRenamingWrongFalsely : Prop := fnKindOfRandomnessSurvivesByteRenamingRow.holds Trym.pinned (OpenSpec.ofChange fnKindOfRandomnessSurvivesByteRenamingWrong)

/-- 'zzlaws_store_b1.FnWalkCompareMatchesComponentOrder': WHATEVER THE INPUT: true; the input reads as it did. -/
def fnWalkCompareMatchesComponentOrderSpec : ChangeSpec := { name := "fnWalkCompareMatchesComponentOrder", fn := fun _ => fun
  | [d1, d2] => { results := [.lit (.bool true)], args := [d1, d2] }
  | _ => none }
def fnWalkCompareMatchesComponentOrderRow : OpenClaim := { program := "qxb6000563amods", sum := "f504f4bde27fdefa2d47e8ee1c307093bfda5a2d808c02715f13d54d81a8e00c", func := "example.com/mortise/mortise/zzlaws_store_b1.FnWalkCompareMatchesComponentOrder", spec := "fnWalkCompareMatchesComponentOrder", inPlace := ["internal/bytealg.IndexByteString", "internal/bytealg.IndexString", "internal/bytealg.abigen_runtime_cmpstring"], named := ["internal/bytealg.MaxLen"], make := .lifted ["publicsums"], apart := false }
def FnWalkCompareMatchesComponentOrderSaid : Prop := fnWalkCompareMatchesComponentOrderRow.holds Trym.pinned (OpenSpec.ofChange fnWalkCompareMatchesComponentOrderSpec)

/-- ITS FALSE NEIGHBOUR: 'it returns false'. Refute it at one input. -/
def fnWalkCompareMatchesComponentOrderWrong : ChangeSpec := { name := "fnWalkCompareMatchesComponentOrder", fn := fun _ => fun
  | [d1, d2] => { results := [.lit (.bool false)], args := [d1, d2] }
  | _ => none }
def FnWalkCompareMatchesComponentOrderWrongFalsely : Prop := fnWalkCompareMatchesComponentOrderRow.holds Trym.pinned (OpenSpec.ofChange fnWalkCompareMatchesComponentOrderWrong)

/-- 'zzlaws_store_b1.FnWalkCompareAntisymmetric': WHATEVER THE INPUT: true; the input reads as it did. -/
def fnWalkCompareAntisymmetricSpec : ChangeSpec := { name := "fnWalkCompareAntisymmetric", fn := fun _ => fun
  | [d1, d2] => { results := [.lit (.bool true)], args := [d1, d2] }
  | _ => none }
def fnWalkCompareAntisymmetricRow : OpenClaim := { program := "qxb6000563amods", sum := "f504f4bde27fdefa2d47e8ee1c307093bfda5a2d808c02715f13d54d81a8e00c", func := "example.com/mortise/mortise/zzlaws_store_b1.FnWalkCompareAntisymmetric", spec := "fnWalkCompareAntisymmetric", inPlace := ["internal/bytealg.IndexByteString", "internal/bytealg.IndexString", "internal/bytealg.abigen_runtime_cmpstring"], named := ["internal/bytealg.MaxLen"], make := .lifted ["publicsums"], apart := false }
def FnWalkCompareAntisymmetricSaid : Prop := fnWalkCompareAntisymmetricRow.holds Trym.pinned (OpenSpec.ofChange fnWalkCompareAntisymmetricSpec)

/-- ITS FALSE NEIGHBOUR: 'it returns false'. Refute it at one input. -/
def fnWalkCompareAntisymmetricWrong : ChangeSpec := { name := "fnWalkCompareAntisymmetric", fn := fun _ => fun
  | [d1, d2] => { results := [.lit (.bool false)], args := [d1, d2] }
  | _ => none }
def FnWalkCompareAntisymmetricWrongFalsely : Prop := fnWalkCompareAntisymmetricRow.holds Trym.pinned (OpenSpec.ofChange fnWalkCompareAntisymmetricWrong)

/-- 'zzlaws_store_b1.FnWalkCompareTransitive': WHATEVER THE INPUT: true; the input reads as it did. -/
def fnWalkCompareTransitiveSpec : ChangeSpec := { name := "fnWalkCompareTransitive", fn := fun _ => fun
  | [d1, d2, d3] => { results := [.lit (.bool true)], args := [d1, d2, d3] }
  | _ => none }
def fnWalkCompareTransitiveRow : OpenClaim := { program := "qxb6000563amods", sum := "f504f4bde27fdefa2d47e8ee1c307093bfda5a2d808c02715f13d54d81a8e00c", func := "example.com/mortise/mortise/zzlaws_store_b1.FnWalkCompareTransitive", spec := "fnWalkCompareTransitive", inPlace := ["internal/bytealg.IndexByteString", "internal/bytealg.IndexString", "internal/bytealg.abigen_runtime_cmpstring"], named := ["internal/bytealg.MaxLen"], make := .lifted ["publicsums"], apart := false }
def FnWalkCompareTransitiveSaid : Prop := fnWalkCompareTransitiveRow.holds Trym.pinned (OpenSpec.ofChange fnWalkCompareTransitiveSpec)

/-- ITS FALSE NEIGHBOUR: 'it returns false'. Refute it at one input. -/
def fnWalkCompareTransitiveWrong : ChangeSpec := { name := "fnWalkCompareTransitive", fn := fun _ => fun
  | [d1, d2, d3] => { results := [.lit (.bool false)], args := [d1, d2, d3] }
  | _ => none }
def FnWalkCompareTransitiveWrongFalsely : Prop := fnWalkCompareTransitiveRow.holds Trym.pinned (OpenSpec.ofChange fnWalkCompareTransitiveWrong)

/-- 'zzlaws_store_b1.FnComesBackWindowModel': WHATEVER THE INPUT: true; the input reads as it did. -/
def fnComesBackWindowModelSpec : ChangeSpec := { name := "fnComesBackWindowModel", fn := fun _ => fun
  | [d1, d2] => { results := [.lit (.bool true)], args := [d1, d2] }
  | _ => none }
def fnComesBackWindowModelRow : OpenClaim := { program := "qxb6000563amods", sum := "f504f4bde27fdefa2d47e8ee1c307093bfda5a2d808c02715f13d54d81a8e00c", func := "example.com/mortise/mortise/zzlaws_store_b1.FnComesBackWindowModel", spec := "fnComesBackWindowModel", make := .lifted ["publicsums"], apart := false }
def FnComesBackWindowModelSaid : Prop := fnComesBackWindowModelRow.holds Trym.pinned (OpenSpec.ofChange fnComesBackWindowModelSpec)

/-- ITS FALSE NEIGHBOUR: 'it returns false'. Refute it at one input. -/
def fnComesBackWindowModelWrong : ChangeSpec := { name := "fnComesBackWindowModel", fn := fun _ => fun
  | [d1, d2] => { results := [.lit (.bool false)], args := [d1, d2] }
  | _ => none }
def FnComesBackWindowModelWrongFalsely : Prop := fnComesBackWindowModelRow.holds Trym.pinned (OpenSpec.ofChange fnComesBackWindowModelWrong)

/-- 'zzlaws_store_b1.FnComesBackForgetsItsStart': WHATEVER THE INPUT: true; the input reads as it did. -/
def fnComesBackForgetsItsStartSpec : ChangeSpec := { name := "fnComesBackForgetsItsStart", fn := fun _ => fun
  | [d1, d2, d3, d4, d5, d6] => { results := [.lit (.bool true)], args := [d1, d2, d3, d4, d5, d6] }
  | _ => none }
def fnComesBackForgetsItsStartRow : OpenClaim := { program := "qxb6000563amods", sum := "f504f4bde27fdefa2d47e8ee1c307093bfda5a2d808c02715f13d54d81a8e00c", func := "example.com/mortise/mortise/zzlaws_store_b1.FnComesBackForgetsItsStart", spec := "fnComesBackForgetsItsStart", make := .lifted ["publicsums"], apart := false }
def FnComesBackForgetsItsStartSaid : Prop := fnComesBackForgetsItsStartRow.holds Trym.pinned (OpenSpec.ofChange fnComesBackForgetsItsStartSpec)

/-- ITS FALSE NEIGHBOUR: 'it returns false'. Refute it at one input. -/
def fnComesBackForgetsItsStartWrong : ChangeSpec := { name := "fnComesBackForgetsItsStart", fn := fun _ => fun
  | [d1, d2, d3, d4, d5, d6] => { results := [.lit (.bool false)], args := [d1, d2, d3, d4, d5, d6] }
  | _ => none }
def FnComesBackForgetsItsStartWrongFalsely : Prop := fnComesBackForgetsItsStartRow.holds Trym.pinned (OpenSpec.ofChange fnComesBackForgetsItsStartWrong)

end Rows
end Go.Proofs.Qxb6000563aMods
