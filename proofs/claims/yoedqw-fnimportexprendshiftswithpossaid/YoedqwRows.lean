/-
  No cell of these rows narrows 'for every input' (looked for: loops, veiled, ifaces, maps, wideKeys, modest, calm, conditions, laid).
  DERIVED. THE GIVEN ROWS OF THIS SEAT. 3 by the template 'for every input the law returns true; each argument reads behind the call as it read before'; 0 by the template 'total and deterministic' (their statements: YoedqwTotals.lean).
  GIVEN WITH THE SEED: the statements are not yours to turn. If you find one false, say at which input.
  Laid BY PROGRAM, IN A SANDBOX (cutbox-rows.mjs): the forced cells as the released guide's own fill.sh prints them over the translation ea10512ce68763c2… (all of the seat's roots in one cut). By AI agents, Wed Nov 11 2026. No macro, syntax, notation, axiom, sorry.
-/
import Derived.Test.YoedqwChecked
import GoSem.Claim
import GoSem.ClaimJoined
import GoSem.ClaimMapViews
import Derived.JoinedTies
import Derived.KernelRfl
namespace Go.Proofs.Yoedqw
/- THE CELL 'sum', in the pinned program and in every row, IS THE sha256 OF THE DUMP (.gsa) THAT YoedqwProg.lean LOADS. Nothing in Lean hashes anything: it is a label: what it is worth is what the hold of that sum in a sandbox is worth. -/
noncomputable def Edqg.pinned : Pinned := { name := "yoedqw", sum := "ea10512ce68763c21f36d156eb2c475a2e674516035874cb03b3089548aba0f0", checked := Edqg.checked }
namespace Rows
def none {H : Type} : Left H := { results := [], args := [] }

/-- 'zzlaws_parser_b15.FnImportExprStringFrameInverse': WHATEVER THE INPUT: true; the input reads as it did. -/
def fnImportExprStringFrameInverseSpec : ChangeSpec := { name := "fnImportExprStringFrameInverse", fn := fun _ => fun
  | [d1, d2, d3, d4, d5] => { results := [.lit (.bool true)], args := [d1, d2, d3, d4, d5] }
  | _ => none }
def fnImportExprStringFrameInverseRow : OpenClaim := { program := "yoedqw", sum := "ea10512ce68763c21f36d156eb2c475a2e674516035874cb03b3089548aba0f0", func := "github.com/d5/tengo/v2/zzlaws_parser_b15.FnImportExprStringFrameInverse", spec := "fnImportExprStringFrameInverse", apart := false }
def FnImportExprStringFrameInverseSaid : Prop := fnImportExprStringFrameInverseRow.holds Edqg.pinned (OpenSpec.ofChange fnImportExprStringFrameInverseSpec)

/-- ITS FALSE NEIGHBOUR: 'it returns false'. Refute it at one input. -/
def fnImportExprStringFrameInverseWrong : ChangeSpec := { name := "fnImportExprStringFrameInverse", fn := fun _ => fun
  | [d1, d2, d3, d4, d5] => { results := [.lit (.bool false)], args := [d1, d2, d3, d4, d5] }
  | _ => none }
def FnImportExprStringFrameInverseWrongFalsely : Prop := fnImportExprStringFrameInverseRow.holds Edqg.pinned (OpenSpec.ofChange fnImportExprStringFrameInverseWrong)

/-- 'zzlaws_parser_b15.FnImportExprSpanEqualsPrintedText': WHATEVER THE INPUT: true; the input reads as it did. -/
def fnImportExprSpanEqualsPrintedTextSpec : ChangeSpec := { name := "fnImportExprSpanEqualsPrintedText", fn := fun _ => fun
  | [d1, d2, d3] => { results := [.lit (.bool true)], args := [d1, d2, d3] }
  | _ => none }
def fnImportExprSpanEqualsPrintedTextRow : OpenClaim := { program := "yoedqw", sum := "ea10512ce68763c21f36d156eb2c475a2e674516035874cb03b3089548aba0f0", func := "github.com/d5/tengo/v2/zzlaws_parser_b15.FnImportExprSpanEqualsPrintedText", spec := "fnImportExprSpanEqualsPrintedText", apart := false }
def FnImportExprSpanEqualsPrintedTextSaid : Prop := fnImportExprSpanEqualsPrintedTextRow.holds Edqg.pinned (OpenSpec.ofChange fnImportExprSpanEqualsPrintedTextSpec)

/-- ITS FALSE NEIGHBOUR: 'it returns false'. Refute it at one input. -/
def fnImportExprSpanEqualsPrintedTextWrong : ChangeSpec := { name := "fnImportExprSpanEqualsPrintedText", fn := fun _ => fun
  | [d1, d2, d3] => { results := [.lit (.bool false)], args := [d1, d2, d3] }
  | _ => none }
def FnImportExprSpanEqualsPrintedTextWrongFalsely : Prop := fnImportExprSpanEqualsPrintedTextRow.holds Edqg.pinned (OpenSpec.ofChange fnImportExprSpanEqualsPrintedTextWrong)

/-- 'zzlaws_parser_b15.FnImportExprEndShiftsWithPos': WHATEVER THE INPUT: true; the input reads as it did. -/
def fnImportExprEndShiftsWithPosSpec : ChangeSpec := { name := "fnImportExprEndShiftsWithPos", fn := fun _ => fun
  | [d1, d2, d3] => { results := [.lit (.bool true)], args := [d1, d2, d3] }
  | _ => none }
def fnImportExprEndShiftsWithPosRow : OpenClaim := { program := "yoedqw", sum := "ea10512ce68763c21f36d156eb2c475a2e674516035874cb03b3089548aba0f0", func := "github.com/d5/tengo/v2/zzlaws_parser_b15.FnImportExprEndShiftsWithPos", spec := "fnImportExprEndShiftsWithPos", apart := false }
def FnImportExprEndShiftsWithPosSaid : Prop := fnImportExprEndShiftsWithPosRow.holds Edqg.pinned (OpenSpec.ofChange fnImportExprEndShiftsWithPosSpec)

/-- ITS FALSE NEIGHBOUR: 'it returns false'. Refute it at one input. -/
def fnImportExprEndShiftsWithPosWrong : ChangeSpec := { name := "fnImportExprEndShiftsWithPos", fn := fun _ => fun
  | [d1, d2, d3] => { results := [.lit (.bool false)], args := [d1, d2, d3] }
  | _ => none }
def FnImportExprEndShiftsWithPosWrongFalsely : Prop := fnImportExprEndShiftsWithPosRow.holds Edqg.pinned (OpenSpec.ofChange fnImportExprEndShiftsWithPosWrong)

end Rows
end Go.Proofs.Yoedqw
