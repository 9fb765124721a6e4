/-
  No cell of these rows narrows 'for every input' (looked for: loops, veiled, ifaces, maps, wideKeys, modest, calm, conditions, laid).
  DERIVED. THE GIVEN ROWS OF THIS SEAT. 7 by the template 'for every input the law returns true; each argument reads behind the call as it read before'; 0 by the template 'total and deterministic' (their statements: Qxb6602750aModsTotals.lean).
  GIVEN WITH THE SEED: the statements are not yours to turn. If you find one false, say at which input.
  Laid BY PROGRAM, IN A SANDBOX (cutbox-rows.mjs): the forced cells as the released guide's own fill.sh prints them over the translation e7eebb3700de9105… (all of the seat's roots in one cut). By AI agents, Wed Nov 11 2026. No macro, syntax, notation, axiom, sorry.
-/
import Derived.Test.Qxb6602750aModsChecked
import GoSem.Claim
import GoSem.ClaimJoined
import GoSem.ClaimMapViews
import Derived.JoinedTies
import Derived.KernelRfl
namespace Go.Proofs.Qxb6602750aMods
/- THE CELL 'sum', in the pinned program and in every row, IS THE sha256 OF THE DUMP (.gsa) THAT Qxb6602750aModsProg.lean LOADS. Nothing in Lean hashes anything: it is a label: what it is worth is what the hold of that sum in a sandbox is worth. -/
noncomputable def Trym.pinned : Pinned := { name := "qxb6602750amods", sum := "e7eebb3700de910501ba508c6a9a54d2077d6779def6753317c77366652f7495", checked := Trym.checked }
namespace Rows
def none {H : Type} : Left H := { results := [], args := [] }

/-- 'zzlaws_root_b1.FnHexDigitsAgainstRightToLeftModel': WHATEVER THE INPUT: true; the input reads as it did. -/
def fnHexDigitsAgainstRightToLeftModelSpec : ChangeSpec := { name := "fnHexDigitsAgainstRightToLeftModel", fn := fun _ => fun
  | [d1, d2] => { results := [.lit (.bool true)], args := [d1, d2] }
  | _ => none }
def fnHexDigitsAgainstRightToLeftModelRow : OpenClaim := { program := "qxb6602750amods", sum := "e7eebb3700de910501ba508c6a9a54d2077d6779def6753317c77366652f7495", func := "example.com/ajuste/ajuste/zzlaws_root_b1.FnHexDigitsAgainstRightToLeftModel", spec := "fnHexDigitsAgainstRightToLeftModel", make := .lifted ["publicsums"], apart := false }
def FnHexDigitsAgainstRightToLeftModelSaid : Prop := fnHexDigitsAgainstRightToLeftModelRow.holds Trym.pinned (OpenSpec.ofChange fnHexDigitsAgainstRightToLeftModelSpec)

/-- ITS FALSE NEIGHBOUR: 'it returns false'. Refute it at one input. -/
def fnHexDigitsAgainstRightToLeftModelWrong : ChangeSpec := { name := "fnHexDigitsAgainstRightToLeftModel", fn := fun _ => fun
  | [d1, d2] => { results := [.lit (.bool false)], args := [d1, d2] }
  | _ => none }
def FnHexDigitsAgainstRightToLeftModelWrongFalsely : Prop := fnHexDigitsAgainstRightToLeftModelRow.holds Trym.pinned (OpenSpec.ofChange fnHexDigitsAgainstRightToLeftModelWrong)

/-- 'zzlaws_root_b1.FnHexDigitsReadsBackWhatIsWritten': WHATEVER THE INPUT: true; the input reads as it did. -/
def fnHexDigitsReadsBackWhatIsWrittenSpec : ChangeSpec := { name := "fnHexDigitsReadsBackWhatIsWritten", fn := fun _ => fun
  | [d1, d2, d3, d4] => { results := [.lit (.bool true)], args := [d1, d2, d3, d4] }
  | _ => none }
def fnHexDigitsReadsBackWhatIsWrittenRow : OpenClaim := { program := "qxb6602750amods", sum := "e7eebb3700de910501ba508c6a9a54d2077d6779def6753317c77366652f7495", func := "example.com/ajuste/ajuste/zzlaws_root_b1.FnHexDigitsReadsBackWhatIsWritten", spec := "fnHexDigitsReadsBackWhatIsWritten", make := .lifted ["publicsums"], apart := false }
def FnHexDigitsReadsBackWhatIsWrittenSaid : Prop := fnHexDigitsReadsBackWhatIsWrittenRow.holds Trym.pinned (OpenSpec.ofChange fnHexDigitsReadsBackWhatIsWrittenSpec)

/-- ITS FALSE NEIGHBOUR: 'it returns false'. Refute it at one input. -/
def fnHexDigitsReadsBackWhatIsWrittenWrong : ChangeSpec := { name := "fnHexDigitsReadsBackWhatIsWritten", fn := fun _ => fun
  | [d1, d2, d3, d4] => { results := [.lit (.bool false)], args := [d1, d2, d3, d4] }
  | _ => none }
def FnHexDigitsReadsBackWhatIsWrittenWrongFalsely : Prop := fnHexDigitsReadsBackWhatIsWrittenRow.holds Trym.pinned (OpenSpec.ofChange fnHexDigitsReadsBackWhatIsWrittenWrong)

/-- 'zzlaws_root_b1.FnNewFieldGivensAgainstLastWinsTable': WHATEVER THE INPUT: true; the input reads as it did. -/
def fnNewFieldGivensAgainstLastWinsTableSpec : ChangeSpec := { name := "fnNewFieldGivensAgainstLastWinsTable", fn := fun _ => fun
  | [d1, d2] => { results := [.lit (.bool true)], args := [d1, d2] }
  | _ => none }
def fnNewFieldGivensAgainstLastWinsTableRow : OpenClaim := { program := "qxb6602750amods", sum := "e7eebb3700de910501ba508c6a9a54d2077d6779def6753317c77366652f7495", func := "example.com/ajuste/ajuste/zzlaws_root_b1.FnNewFieldGivensAgainstLastWinsTable", spec := "fnNewFieldGivensAgainstLastWinsTable", make := .lifted ["publicsums"], apart := false }
def FnNewFieldGivensAgainstLastWinsTableSaid : Prop := fnNewFieldGivensAgainstLastWinsTableRow.holds Trym.pinned (OpenSpec.ofChange fnNewFieldGivensAgainstLastWinsTableSpec)

/-- ITS FALSE NEIGHBOUR: 'it returns false'. Refute it at one input. -/
def fnNewFieldGivensAgainstLastWinsTableWrong : ChangeSpec := { name := "fnNewFieldGivensAgainstLastWinsTable", fn := fun _ => fun
  | [d1, d2] => { results := [.lit (.bool false)], args := [d1, d2] }
  | _ => none }
def FnNewFieldGivensAgainstLastWinsTableWrongFalsely : Prop := fnNewFieldGivensAgainstLastWinsTableRow.holds Trym.pinned (OpenSpec.ofChange fnNewFieldGivensAgainstLastWinsTableWrong)

/-- 'zzlaws_root_b1.FnNewFieldGivensOrderFreeForDistinctKeys': WHATEVER THE INPUT: true; the input reads as it did. -/
def fnNewFieldGivensOrderFreeForDistinctKeysSpec : ChangeSpec := { name := "fnNewFieldGivensOrderFreeForDistinctKeys", fn := fun _ => fun
  | [d1, d2] => { results := [.lit (.bool true)], args := [d1, d2] }
  | _ => none }
def fnNewFieldGivensOrderFreeForDistinctKeysRow : OpenClaim := { program := "qxb6602750amods", sum := "e7eebb3700de910501ba508c6a9a54d2077d6779def6753317c77366652f7495", func := "example.com/ajuste/ajuste/zzlaws_root_b1.FnNewFieldGivensOrderFreeForDistinctKeys", spec := "fnNewFieldGivensOrderFreeForDistinctKeys", make := .lifted ["publicsums"], apart := false }
def FnNewFieldGivensOrderFreeForDistinctKeysSaid : Prop := fnNewFieldGivensOrderFreeForDistinctKeysRow.holds Trym.pinned (OpenSpec.ofChange fnNewFieldGivensOrderFreeForDistinctKeysSpec)

/-- ITS FALSE NEIGHBOUR: 'it returns false'. Refute it at one input. -/
def fnNewFieldGivensOrderFreeForDistinctKeysWrong : ChangeSpec := { name := "fnNewFieldGivensOrderFreeForDistinctKeys", fn := fun _ => fun
  | [d1, d2] => { results := [.lit (.bool false)], args := [d1, d2] }
  | _ => none }
def FnNewFieldGivensOrderFreeForDistinctKeysWrongFalsely : Prop := fnNewFieldGivensOrderFreeForDistinctKeysRow.holds Trym.pinned (OpenSpec.ofChange fnNewFieldGivensOrderFreeForDistinctKeysWrong)

/-- 'zzlaws_root_b1.FnBlockTextAgainstSeparatorModel': WHATEVER THE INPUT: true; the input reads as it did. -/
def fnBlockTextAgainstSeparatorModelSpec : ChangeSpec := { name := "fnBlockTextAgainstSeparatorModel", fn := fun _ => fun
  | [d1, d2, d3] => { results := [.lit (.bool true)], args := [d1, d2, d3] }
  | _ => none }
def fnBlockTextAgainstSeparatorModelRow : OpenClaim := { program := "qxb6602750amods", sum := "e7eebb3700de910501ba508c6a9a54d2077d6779def6753317c77366652f7495", func := "example.com/ajuste/ajuste/zzlaws_root_b1.FnBlockTextAgainstSeparatorModel", spec := "fnBlockTextAgainstSeparatorModel", inPlace := ["internal/abi.NoEscape", "internal/bytealg.MakeNoZero"], make := .lifted ["publicsums"], apart := false }
def FnBlockTextAgainstSeparatorModelSaid : Prop := fnBlockTextAgainstSeparatorModelRow.holds Trym.pinned (OpenSpec.ofChange fnBlockTextAgainstSeparatorModelSpec)

/-- ITS FALSE NEIGHBOUR: 'it returns false'. Refute it at one input. -/
def fnBlockTextAgainstSeparatorModelWrong : ChangeSpec := { name := "fnBlockTextAgainstSeparatorModel", fn := fun _ => fun
  | [d1, d2, d3] => { results := [.lit (.bool false)], args := [d1, d2, d3] }
  | _ => none }
def FnBlockTextAgainstSeparatorModelWrongFalsely : Prop := fnBlockTextAgainstSeparatorModelRow.holds Trym.pinned (OpenSpec.ofChange fnBlockTextAgainstSeparatorModelWrong)

/-- 'zzlaws_root_b1.FnBlockTextLiteralKeptSplitsBackIntoLines': WHATEVER THE INPUT: true; the input reads as it did. -/
def fnBlockTextLiteralKeptSplitsBackIntoLinesSpec : ChangeSpec := { name := "fnBlockTextLiteralKeptSplitsBackIntoLines", fn := fun _ => fun
  | [d] => { results := [.lit (.bool true)], args := [d] }
  | _ => none }
def fnBlockTextLiteralKeptSplitsBackIntoLinesRow : OpenClaim := { program := "qxb6602750amods", sum := "e7eebb3700de910501ba508c6a9a54d2077d6779def6753317c77366652f7495", func := "example.com/ajuste/ajuste/zzlaws_root_b1.FnBlockTextLiteralKeptSplitsBackIntoLines", spec := "fnBlockTextLiteralKeptSplitsBackIntoLines", inPlace := ["internal/abi.NoEscape", "internal/bytealg.MakeNoZero"], make := .lifted ["publicsums"], apart := false }
def FnBlockTextLiteralKeptSplitsBackIntoLinesSaid : Prop := fnBlockTextLiteralKeptSplitsBackIntoLinesRow.holds Trym.pinned (OpenSpec.ofChange fnBlockTextLiteralKeptSplitsBackIntoLinesSpec)

/-- ITS FALSE NEIGHBOUR: 'it returns false'. Refute it at one input. -/
def fnBlockTextLiteralKeptSplitsBackIntoLinesWrong : ChangeSpec := { name := "fnBlockTextLiteralKeptSplitsBackIntoLines", fn := fun _ => fun
  | [d] => { results := [.lit (.bool false)], args := [d] }
  | _ => none }
def FnBlockTextLiteralKeptSplitsBackIntoLinesWrongFalsely : Prop := fnBlockTextLiteralKeptSplitsBackIntoLinesRow.holds Trym.pinned (OpenSpec.ofChange fnBlockTextLiteralKeptSplitsBackIntoLinesWrong)

/-- 'zzlaws_root_b1.FnBlockTextFoldedIsLiteralWhereNoTwoPlainLinesMeet': WHATEVER THE INPUT: true; the input reads as it did. -/
def fnBlockTextFoldedIsLiteralWhereNoTwoPlainLinesMeetSpec : ChangeSpec := { name := "fnBlockTextFoldedIsLiteralWhereNoTwoPlainLinesMeet", fn := fun _ => fun
  | [d1, d2] => { results := [.lit (.bool true)], args := [d1, d2] }
  | _ => none }
def fnBlockTextFoldedIsLiteralWhereNoTwoPlainLinesMeetRow : OpenClaim := { program := "qxb6602750amods", sum := "e7eebb3700de910501ba508c6a9a54d2077d6779def6753317c77366652f7495", func := "example.com/ajuste/ajuste/zzlaws_root_b1.FnBlockTextFoldedIsLiteralWhereNoTwoPlainLinesMeet", spec := "fnBlockTextFoldedIsLiteralWhereNoTwoPlainLinesMeet", inPlace := ["internal/abi.NoEscape", "internal/bytealg.MakeNoZero"], make := .lifted ["publicsums"], apart := false }
def FnBlockTextFoldedIsLiteralWhereNoTwoPlainLinesMeetSaid : Prop := fnBlockTextFoldedIsLiteralWhereNoTwoPlainLinesMeetRow.holds Trym.pinned (OpenSpec.ofChange fnBlockTextFoldedIsLiteralWhereNoTwoPlainLinesMeetSpec)

/-- ITS FALSE NEIGHBOUR: 'it returns false'. Refute it at one input. -/
def fnBlockTextFoldedIsLiteralWhereNoTwoPlainLinesMeetWrong : ChangeSpec := { name := "fnBlockTextFoldedIsLiteralWhereNoTwoPlainLinesMeet", fn := fun _ => fun
  | [d1, d2] => { results := [.lit (.bool false)], args := [d1, d2] }
  | _ => none }
def FnBlockTextFoldedIsLiteralWhereNoTwoPlainLinesMeetWrongFalsely : Prop := fnBlockTextFoldedIsLiteralWhereNoTwoPlainLinesMeetRow.holds Trym.pinned (OpenSpec.ofChange fnBlockTextFoldedIsLiteralWhereNoTwoPlainLinesMeetWrong)

end Rows
end Go.Proofs.Qxb6602750aMods
