/-
  No cell of these rows narrows 'for every input' (looked for: loops, veiled, ifaces, maps, wideKeys, modest, calm, conditions, laid).
  DERIVED. THE GIVEN ROWS OF THIS SEAT. 8 by the template 'for every input the law returns true; each argument reads behind the call as it read before'; 0 by the template 'total and deterministic' (their statements: YoedtwTotals.lean).
  GIVEN WITH THE SEED: the statements are not yours to turn. If you find one false, say at which input.
  Laid BY PROGRAM, IN A SANDBOX (cutbox-rows.mjs): the forced cells as the released guide's own fill.sh prints them over the translation 1aa783c10cc5f093… (all of the seat's roots in one cut). By AI agents, Wed Nov 11 2026. No macro, syntax, notation, axiom, sorry.
-/
import Derived.Test.YoedtwChecked
import GoSem.Claim
import GoSem.ClaimJoined
import GoSem.ClaimMapViews
import Derived.JoinedTies
import Derived.KernelRfl
namespace Go.Proofs.Yoedtw
/- THE CELL 'sum', in the pinned program and in every row, IS THE sha256 OF THE DUMP (.gsa) THAT YoedtwProg.lean LOADS. Nothing in Lean hashes anything: it is a label: what it is worth is what the hold of that sum in a sandbox is worth. -/
noncomputable def Edtg.pinned : Pinned := { name := "yoedtw", sum := "1aa783c10cc5f0930f6af3a13450bbaf9bafe26efba402717e545473558bbeab", checked := Edtg.checked }
namespace Rows
def none {H : Type} : Left H := { results := [], args := [] }

/-- 'zzlaws_parser_b50.FnOffsetInvertsFileSetPos': WHATEVER THE INPUT: true; the input reads as it did. -/
def fnOffsetInvertsFileSetPosSpec : ChangeSpec := { name := "fnOffsetInvertsFileSetPos", fn := fun _ => fun
  | [d1, d2, d3, d4] => { results := [.lit (.bool true)], args := [d1, d2, d3, d4] }
  | _ => none }
def fnOffsetInvertsFileSetPosRow : OpenClaim := { program := "yoedtw", sum := "1aa783c10cc5f0930f6af3a13450bbaf9bafe26efba402717e545473558bbeab", func := "github.com/d5/tengo/v2/zzlaws_parser_b50.FnOffsetInvertsFileSetPos", spec := "fnOffsetInvertsFileSetPos", apart := false }
def FnOffsetInvertsFileSetPosSaid : Prop := fnOffsetInvertsFileSetPosRow.holds Edtg.pinned (OpenSpec.ofChange fnOffsetInvertsFileSetPosSpec)

/-- ITS FALSE NEIGHBOUR: 'it returns false'. Refute it at one input. -/
def fnOffsetInvertsFileSetPosWrong : ChangeSpec := { name := "fnOffsetInvertsFileSetPos", fn := fun _ => fun
  | [d1, d2, d3, d4] => { results := [.lit (.bool false)], args := [d1, d2, d3, d4] }
  | _ => none }
def FnOffsetInvertsFileSetPosWrongFalsely : Prop := fnOffsetInvertsFileSetPosRow.holds Edtg.pinned (OpenSpec.ofChange fnOffsetInvertsFileSetPosWrong)

/-- 'zzlaws_parser_b50.FnOffsetFreshSetClosedForm': WHATEVER THE INPUT: true; the input reads as it did. -/
def fnOffsetFreshSetClosedFormSpec : ChangeSpec := { name := "fnOffsetFreshSetClosedForm", fn := fun _ => fun
  | [d1, d2, d3, d4] => { results := [.lit (.bool true)], args := [d1, d2, d3, d4] }
  | _ => none }
def fnOffsetFreshSetClosedFormRow : OpenClaim := { program := "yoedtw", sum := "1aa783c10cc5f0930f6af3a13450bbaf9bafe26efba402717e545473558bbeab", func := "github.com/d5/tengo/v2/zzlaws_parser_b50.FnOffsetFreshSetClosedForm", spec := "fnOffsetFreshSetClosedForm", apart := false }
def FnOffsetFreshSetClosedFormSaid : Prop := fnOffsetFreshSetClosedFormRow.holds Edtg.pinned (OpenSpec.ofChange fnOffsetFreshSetClosedFormSpec)

/-- ITS FALSE NEIGHBOUR: 'it returns false'. Refute it at one input. -/
def fnOffsetFreshSetClosedFormWrong : ChangeSpec := { name := "fnOffsetFreshSetClosedForm", fn := fun _ => fun
  | [d1, d2, d3, d4] => { results := [.lit (.bool false)], args := [d1, d2, d3, d4] }
  | _ => none }
def FnOffsetFreshSetClosedFormWrongFalsely : Prop := fnOffsetFreshSetClosedFormRow.holds Edtg.pinned (OpenSpec.ofChange fnOffsetFreshSetClosedFormWrong)

/-- 'zzlaws_parser_b50.FnPositionMatchesLineModel': WHATEVER THE INPUT: true; the input reads as it did. -/
def fnPositionMatchesLineModelSpec : ChangeSpec := { name := "fnPositionMatchesLineModel", fn := fun _ => fun
  | [d1, d2, d3, d4, d5] => { results := [.lit (.bool true)], args := [d1, d2, d3, d4, d5] }
  | _ => none }
def fnPositionMatchesLineModelRow : OpenClaim := { program := "yoedtw", sum := "1aa783c10cc5f0930f6af3a13450bbaf9bafe26efba402717e545473558bbeab", func := "github.com/d5/tengo/v2/zzlaws_parser_b50.FnPositionMatchesLineModel", spec := "fnPositionMatchesLineModel", apart := false }
def FnPositionMatchesLineModelSaid : Prop := fnPositionMatchesLineModelRow.holds Edtg.pinned (OpenSpec.ofChange fnPositionMatchesLineModelSpec)

/-- ITS FALSE NEIGHBOUR: 'it returns false'. Refute it at one input. -/
def fnPositionMatchesLineModelWrong : ChangeSpec := { name := "fnPositionMatchesLineModel", fn := fun _ => fun
  | [d1, d2, d3, d4, d5] => { results := [.lit (.bool false)], args := [d1, d2, d3, d4, d5] }
  | _ => none }
def FnPositionMatchesLineModelWrongFalsely : Prop := fnPositionMatchesLineModelRow.holds Edtg.pinned (OpenSpec.ofChange fnPositionMatchesLineModelWrong)

/-- 'zzlaws_parser_b50.FnPositionAgreesWithLineStart': WHATEVER THE INPUT: true; the input reads as it did. -/
def fnPositionAgreesWithLineStartSpec : ChangeSpec := { name := "fnPositionAgreesWithLineStart", fn := fun _ => fun
  | [d1, d2, d3, d4, d5] => { results := [.lit (.bool true)], args := [d1, d2, d3, d4, d5] }
  | _ => none }
def fnPositionAgreesWithLineStartRow : OpenClaim := { program := "yoedtw", sum := "1aa783c10cc5f0930f6af3a13450bbaf9bafe26efba402717e545473558bbeab", func := "github.com/d5/tengo/v2/zzlaws_parser_b50.FnPositionAgreesWithLineStart", spec := "fnPositionAgreesWithLineStart", apart := false }
def FnPositionAgreesWithLineStartSaid : Prop := fnPositionAgreesWithLineStartRow.holds Edtg.pinned (OpenSpec.ofChange fnPositionAgreesWithLineStartSpec)

/-- ITS FALSE NEIGHBOUR: 'it returns false'. Refute it at one input. -/
def fnPositionAgreesWithLineStartWrong : ChangeSpec := { name := "fnPositionAgreesWithLineStart", fn := fun _ => fun
  | [d1, d2, d3, d4, d5] => { results := [.lit (.bool false)], args := [d1, d2, d3, d4, d5] }
  | _ => none }
def FnPositionAgreesWithLineStartWrongFalsely : Prop := fnPositionAgreesWithLineStartRow.holds Edtg.pinned (OpenSpec.ofChange fnPositionAgreesWithLineStartWrong)

/-- 'zzlaws_parser_b50.FnPositionLowerMatchesModel': WHATEVER THE INPUT: true; the input reads as it did. -/
def fnPositionLowerMatchesModelSpec : ChangeSpec := { name := "fnPositionLowerMatchesModel", fn := fun _ => fun
  | [d1, d2, d3, d4, d5] => { results := [.lit (.bool true)], args := [d1, d2, d3, d4, d5] }
  | _ => none }
def fnPositionLowerMatchesModelRow : OpenClaim := { program := "yoedtw", sum := "1aa783c10cc5f0930f6af3a13450bbaf9bafe26efba402717e545473558bbeab", func := "github.com/d5/tengo/v2/zzlaws_parser_b50.FnPositionLowerMatchesModel", spec := "fnPositionLowerMatchesModel", apart := false }
def FnPositionLowerMatchesModelSaid : Prop := fnPositionLowerMatchesModelRow.holds Edtg.pinned (OpenSpec.ofChange fnPositionLowerMatchesModelSpec)

/-- ITS FALSE NEIGHBOUR: 'it returns false'. Refute it at one input. -/
def fnPositionLowerMatchesModelWrong : ChangeSpec := { name := "fnPositionLowerMatchesModel", fn := fun _ => fun
  | [d1, d2, d3, d4, d5] => { results := [.lit (.bool false)], args := [d1, d2, d3, d4, d5] }
  | _ => none }
def FnPositionLowerMatchesModelWrongFalsely : Prop := fnPositionLowerMatchesModelRow.holds Edtg.pinned (OpenSpec.ofChange fnPositionLowerMatchesModelWrong)

/-- 'zzlaws_parser_b50.FnPositionLowerCaseTable': WHATEVER THE INPUT: true; the input reads as it did. -/
def fnPositionLowerCaseTableSpec : ChangeSpec := { name := "fnPositionLowerCaseTable", fn := fun _ => fun
  | [d1, d2, d3, d4, d5] => { results := [.lit (.bool true)], args := [d1, d2, d3, d4, d5] }
  | _ => none }
def fnPositionLowerCaseTableRow : OpenClaim := { program := "yoedtw", sum := "1aa783c10cc5f0930f6af3a13450bbaf9bafe26efba402717e545473558bbeab", func := "github.com/d5/tengo/v2/zzlaws_parser_b50.FnPositionLowerCaseTable", spec := "fnPositionLowerCaseTable", apart := false }
def FnPositionLowerCaseTableSaid : Prop := fnPositionLowerCaseTableRow.holds Edtg.pinned (OpenSpec.ofChange fnPositionLowerCaseTableSpec)

/-- ITS FALSE NEIGHBOUR: 'it returns false'. Refute it at one input. -/
def fnPositionLowerCaseTableWrong : ChangeSpec := { name := "fnPositionLowerCaseTable", fn := fun _ => fun
  | [d1, d2, d3, d4, d5] => { results := [.lit (.bool false)], args := [d1, d2, d3, d4, d5] }
  | _ => none }
def FnPositionLowerCaseTableWrongFalsely : Prop := fnPositionLowerCaseTableRow.holds Edtg.pinned (OpenSpec.ofChange fnPositionLowerCaseTableWrong)

/-- 'zzlaws_parser_b50.FnUnpackMatchesLineModel': WHATEVER THE INPUT: true; the input reads as it did. -/
def fnUnpackMatchesLineModelSpec : ChangeSpec := { name := "fnUnpackMatchesLineModel", fn := fun _ => fun
  | [d1, d2, d3, d4, d5] => { results := [.lit (.bool true)], args := [d1, d2, d3, d4, d5] }
  | _ => none }
def fnUnpackMatchesLineModelRow : OpenClaim := { program := "yoedtw", sum := "1aa783c10cc5f0930f6af3a13450bbaf9bafe26efba402717e545473558bbeab", func := "github.com/d5/tengo/v2/zzlaws_parser_b50.FnUnpackMatchesLineModel", spec := "fnUnpackMatchesLineModel", apart := false }
def FnUnpackMatchesLineModelSaid : Prop := fnUnpackMatchesLineModelRow.holds Edtg.pinned (OpenSpec.ofChange fnUnpackMatchesLineModelSpec)

/-- ITS FALSE NEIGHBOUR: 'it returns false'. Refute it at one input. -/
def fnUnpackMatchesLineModelWrong : ChangeSpec := { name := "fnUnpackMatchesLineModel", fn := fun _ => fun
  | [d1, d2, d3, d4, d5] => { results := [.lit (.bool false)], args := [d1, d2, d3, d4, d5] }
  | _ => none }
def FnUnpackMatchesLineModelWrongFalsely : Prop := fnUnpackMatchesLineModelRow.holds Edtg.pinned (OpenSpec.ofChange fnUnpackMatchesLineModelWrong)

/-- 'zzlaws_parser_b50.FnUnpackMonotone': WHATEVER THE INPUT: true; the input reads as it did. -/
def fnUnpackMonotoneSpec : ChangeSpec := { name := "fnUnpackMonotone", fn := fun _ => fun
  | [d1, d2, d3, d4, d5, d6] => { results := [.lit (.bool true)], args := [d1, d2, d3, d4, d5, d6] }
  | _ => none }
def fnUnpackMonotoneRow : OpenClaim := { program := "yoedtw", sum := "1aa783c10cc5f0930f6af3a13450bbaf9bafe26efba402717e545473558bbeab", func := "github.com/d5/tengo/v2/zzlaws_parser_b50.FnUnpackMonotone", spec := "fnUnpackMonotone", apart := false }
def FnUnpackMonotoneSaid : Prop := fnUnpackMonotoneRow.holds Edtg.pinned (OpenSpec.ofChange fnUnpackMonotoneSpec)

/-- ITS FALSE NEIGHBOUR: 'it returns false'. Refute it at one input. -/
def fnUnpackMonotoneWrong : ChangeSpec := { name := "fnUnpackMonotone", fn := fun _ => fun
  | [d1, d2, d3, d4, d5, d6] => { results := [.lit (.bool false)], args := [d1, d2, d3, d4, d5, d6] }
  | _ => none }
def FnUnpackMonotoneWrongFalsely : Prop := fnUnpackMonotoneRow.holds Edtg.pinned (OpenSpec.ofChange fnUnpackMonotoneWrong)

end Rows
end Go.Proofs.Yoedtw
