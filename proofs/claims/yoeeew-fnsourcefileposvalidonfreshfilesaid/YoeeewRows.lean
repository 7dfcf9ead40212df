/-
  No cell of these rows narrows 'for every input' (looked for: loops, veiled, ifaces, maps, wideKeys, modest, calm, conditions, laid).
  DERIVED. THE GIVEN ROWS OF THIS SEAT. 5 by the template 'for every input the law returns true; each argument reads behind the call as it read before'; 0 by the template 'total and deterministic' (their statements: YoeeewTotals.lean).
  GIVEN WITH THE SEED: the statements are not yours to turn. If you find one false, say at which input.
  Laid BY PROGRAM, IN A SANDBOX (cutbox-rows.mjs): the forced cells as the released guide's own fill.sh prints them over the translation d487b4c13e0c1b57… (all of the seat's roots in one cut). By AI agents, Wed Nov 11 2026. No macro, syntax, notation, axiom, sorry.
-/
import Derived.Test.YoeeewChecked
import GoSem.Claim
import GoSem.ClaimJoined
import GoSem.ClaimMapViews
import Derived.JoinedTies
import Derived.KernelRfl
namespace Go.Proofs.Yoeeew
/- THE CELL 'sum', in the pinned program and in every row, IS THE sha256 OF THE DUMP (.gsa) THAT YoeeewProg.lean LOADS. Nothing in Lean hashes anything: it is a label: what it is worth is what the hold of that sum in a sandbox is worth. -/
noncomputable def Eeeg.pinned : Pinned := { name := "yoeeew", sum := "d487b4c13e0c1b571061176b920cb276f67f957170028890bf13f5b484976a43", checked := Eeeg.checked }
namespace Rows
def none {H : Type} : Left H := { results := [], args := [] }

/-- 'zzlaws_parser_b46.FnDigitValMatchesHexTable': WHATEVER THE INPUT: true; the input reads as it did. -/
def fnDigitValMatchesHexTableSpec : ChangeSpec := { name := "fnDigitValMatchesHexTable", fn := fun _ => fun
  | [d] => { results := [.lit (.bool true)], args := [d] }
  | _ => none }
def fnDigitValMatchesHexTableRow : OpenClaim := { program := "yoeeew", sum := "d487b4c13e0c1b571061176b920cb276f67f957170028890bf13f5b484976a43", func := "github.com/d5/tengo/v2/zzlaws_parser_b46.FnDigitValMatchesHexTable", spec := "fnDigitValMatchesHexTable", apart := false }
def FnDigitValMatchesHexTableSaid : Prop := fnDigitValMatchesHexTableRow.holds Eeeg.pinned (OpenSpec.ofChange fnDigitValMatchesHexTableSpec)

/-- ITS FALSE NEIGHBOUR: 'it returns false'. Refute it at one input. -/
def fnDigitValMatchesHexTableWrong : ChangeSpec := { name := "fnDigitValMatchesHexTable", fn := fun _ => fun
  | [d] => { results := [.lit (.bool false)], args := [d] }
  | _ => none }
def FnDigitValMatchesHexTableWrongFalsely : Prop := fnDigitValMatchesHexTableRow.holds Eeeg.pinned (OpenSpec.ofChange fnDigitValMatchesHexTableWrong)

/-- 'zzlaws_parser_b46.FnDigitValCaseInsensitive': WHATEVER THE INPUT: true; the input reads as it did. -/
def fnDigitValCaseInsensitiveSpec : ChangeSpec := { name := "fnDigitValCaseInsensitive", fn := fun _ => fun
  | [d] => { results := [.lit (.bool true)], args := [d] }
  | _ => none }
def fnDigitValCaseInsensitiveRow : OpenClaim := { program := "yoeeew", sum := "d487b4c13e0c1b571061176b920cb276f67f957170028890bf13f5b484976a43", func := "github.com/d5/tengo/v2/zzlaws_parser_b46.FnDigitValCaseInsensitive", spec := "fnDigitValCaseInsensitive", apart := false }
def FnDigitValCaseInsensitiveSaid : Prop := fnDigitValCaseInsensitiveRow.holds Eeeg.pinned (OpenSpec.ofChange fnDigitValCaseInsensitiveSpec)

/-- ITS FALSE NEIGHBOUR: 'it returns false'. Refute it at one input. -/
def fnDigitValCaseInsensitiveWrong : ChangeSpec := { name := "fnDigitValCaseInsensitive", fn := fun _ => fun
  | [d] => { results := [.lit (.bool false)], args := [d] }
  | _ => none }
def FnDigitValCaseInsensitiveWrongFalsely : Prop := fnDigitValCaseInsensitiveRow.holds Eeeg.pinned (OpenSpec.ofChange fnDigitValCaseInsensitiveWrong)

/-- 'zzlaws_parser_b46.FnLowerClosedForm': WHATEVER THE INPUT: true; the input reads as it did. -/
def fnLowerClosedFormSpec : ChangeSpec := { name := "fnLowerClosedForm", fn := fun _ => fun
  | [d] => { results := [.lit (.bool true)], args := [d] }
  | _ => none }
def fnLowerClosedFormRow : OpenClaim := { program := "yoeeew", sum := "d487b4c13e0c1b571061176b920cb276f67f957170028890bf13f5b484976a43", func := "github.com/d5/tengo/v2/zzlaws_parser_b46.FnLowerClosedForm", spec := "fnLowerClosedForm", apart := false }
def FnLowerClosedFormSaid : Prop := fnLowerClosedFormRow.holds Eeeg.pinned (OpenSpec.ofChange fnLowerClosedFormSpec)

/-- ITS FALSE NEIGHBOUR: 'it returns false'. Refute it at one input. -/
def fnLowerClosedFormWrong : ChangeSpec := { name := "fnLowerClosedForm", fn := fun _ => fun
  | [d] => { results := [.lit (.bool false)], args := [d] }
  | _ => none }
def FnLowerClosedFormWrongFalsely : Prop := fnLowerClosedFormRow.holds Eeeg.pinned (OpenSpec.ofChange fnLowerClosedFormWrong)

/-- 'zzlaws_parser_b46.FnLowerPrefixLettersExact': WHATEVER THE INPUT: true; the input reads as it did. -/
def fnLowerPrefixLettersExactSpec : ChangeSpec := { name := "fnLowerPrefixLettersExact", fn := fun _ => fun
  | [d] => { results := [.lit (.bool true)], args := [d] }
  | _ => none }
def fnLowerPrefixLettersExactRow : OpenClaim := { program := "yoeeew", sum := "d487b4c13e0c1b571061176b920cb276f67f957170028890bf13f5b484976a43", func := "github.com/d5/tengo/v2/zzlaws_parser_b46.FnLowerPrefixLettersExact", spec := "fnLowerPrefixLettersExact", apart := false }
def FnLowerPrefixLettersExactSaid : Prop := fnLowerPrefixLettersExactRow.holds Eeeg.pinned (OpenSpec.ofChange fnLowerPrefixLettersExactSpec)

/-- ITS FALSE NEIGHBOUR: 'it returns false'. Refute it at one input. -/
def fnLowerPrefixLettersExactWrong : ChangeSpec := { name := "fnLowerPrefixLettersExact", fn := fun _ => fun
  | [d] => { results := [.lit (.bool false)], args := [d] }
  | _ => none }
def FnLowerPrefixLettersExactWrongFalsely : Prop := fnLowerPrefixLettersExactRow.holds Eeeg.pinned (OpenSpec.ofChange fnLowerPrefixLettersExactWrong)

/-- 'zzlaws_parser_b46.FnSourceFilePosValidOnFreshFile': WHATEVER THE INPUT: true; the input reads as it did. -/
def fnSourceFilePosValidOnFreshFileSpec : ChangeSpec := { name := "fnSourceFilePosValidOnFreshFile", fn := fun _ => fun
  | [d1, d2, d3] => { results := [.lit (.bool true)], args := [d1, d2, d3] }
  | _ => none }
def fnSourceFilePosValidOnFreshFileRow : OpenClaim := { program := "yoeeew", sum := "d487b4c13e0c1b571061176b920cb276f67f957170028890bf13f5b484976a43", func := "github.com/d5/tengo/v2/zzlaws_parser_b46.FnSourceFilePosValidOnFreshFile", spec := "fnSourceFilePosValidOnFreshFile", apart := false }
def FnSourceFilePosValidOnFreshFileSaid : Prop := fnSourceFilePosValidOnFreshFileRow.holds Eeeg.pinned (OpenSpec.ofChange fnSourceFilePosValidOnFreshFileSpec)

/-- ITS FALSE NEIGHBOUR: 'it returns false'. Refute it at one input. -/
def fnSourceFilePosValidOnFreshFileWrong : ChangeSpec := { name := "fnSourceFilePosValidOnFreshFile", fn := fun _ => fun
  | [d1, d2, d3] => { results := [.lit (.bool false)], args := [d1, d2, d3] }
  | _ => none }
def FnSourceFilePosValidOnFreshFileWrongFalsely : Prop := fnSourceFilePosValidOnFreshFileRow.holds Eeeg.pinned (OpenSpec.ofChange fnSourceFilePosValidOnFreshFileWrong)

end Rows
end Go.Proofs.Yoeeew
