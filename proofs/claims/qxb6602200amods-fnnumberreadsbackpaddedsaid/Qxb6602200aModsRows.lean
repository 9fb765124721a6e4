/-
  No cell of these rows narrows 'for every input' (looked for: loops, veiled, ifaces, maps, wideKeys, modest, calm, conditions, laid).
  DERIVED. THE GIVEN ROWS OF THIS SEAT. 4 by the template 'for every input the law returns true; each argument reads behind the call as it read before'; 0 by the template 'total and deterministic' (their statements: Qxb6602200aModsTotals.lean).
  GIVEN WITH THE SEED: the statements are not yours to turn. If you find one false, say at which input.
  Laid BY PROGRAM, IN A SANDBOX (cutbox-rows.mjs): the forced cells as the released guide's own fill.sh prints them over the translation 515b5d4cdd393692… (all of the seat's roots in one cut). By AI agents, Wed Nov 11 2026. No macro, syntax, notation, axiom, sorry.
-/
import Derived.Test.Qxb6602200aModsChecked
import GoSem.Claim
import GoSem.ClaimJoined
import GoSem.ClaimMapViews
import Derived.JoinedTies
import Derived.KernelRfl
namespace Go.Proofs.Qxb6602200aMods
/- THE CELL 'sum', in the pinned program and in every row, IS THE sha256 OF THE DUMP (.gsa) THAT Qxb6602200aModsProg.lean LOADS. Nothing in Lean hashes anything: it is a label: what it is worth is what the hold of that sum in a sandbox is worth. -/
noncomputable def Trym.pinned : Pinned := { name := "qxb6602200amods", sum := "515b5d4cdd39369278d1a899959381088acfdf183b3ab3f817f7952a7e1e367f", checked := Trym.checked }
namespace Rows
def none {H : Type} : Left H := { results := [], args := [] }

/-- 'zzlaws_internal_catalog_b1.FnNumberMatchesModel': WHATEVER THE INPUT: true; the input reads as it did. -/
def fnNumberMatchesModelSpec : ChangeSpec := { name := "fnNumberMatchesModel", fn := fun _ => fun
  | [d1, d2, d3, d4, d5] => { results := [.lit (.bool true)], args := [d1, d2, d3, d4, d5] }
  | _ => none }
def fnNumberMatchesModelRow : OpenClaim := { program := "qxb6602200amods", sum := "515b5d4cdd39369278d1a899959381088acfdf183b3ab3f817f7952a7e1e367f", func := "example.com/variantum/variantum/zzlaws_internal_catalog_b1.FnNumberMatchesModel", spec := "fnNumberMatchesModel", make := .lifted ["publicsums"], apart := false }
def FnNumberMatchesModelSaid : Prop := fnNumberMatchesModelRow.holds Trym.pinned (OpenSpec.ofChange fnNumberMatchesModelSpec)

/-- ITS FALSE NEIGHBOUR: 'it returns false'. Refute it at one input. -/
def fnNumberMatchesModelWrong : ChangeSpec := { name := "fnNumberMatchesModel", fn := fun _ => fun
  | [d1, d2, d3, d4, d5] => { results := [.lit (.bool false)], args := [d1, d2, d3, d4, d5] }
  | _ => none }
def FnNumberMatchesModelWrongFalsely : Prop := fnNumberMatchesModelRow.holds Trym.pinned (OpenSpec.ofChange fnNumberMatchesModelWrong)

/-- 'zzlaws_internal_catalog_b1.FnNumberReadsBackPadded': WHATEVER THE INPUT: true; the input reads as it did. -/
def fnNumberReadsBackPaddedSpec : ChangeSpec := { name := "fnNumberReadsBackPadded", fn := fun _ => fun
  | [d1, d2, d3, d4, d5] => { results := [.lit (.bool true)], args := [d1, d2, d3, d4, d5] }
  | _ => none }
def fnNumberReadsBackPaddedRow : OpenClaim := { program := "qxb6602200amods", sum := "515b5d4cdd39369278d1a899959381088acfdf183b3ab3f817f7952a7e1e367f", func := "example.com/variantum/variantum/zzlaws_internal_catalog_b1.FnNumberReadsBackPadded", spec := "fnNumberReadsBackPadded", make := .lifted ["publicsums"], apart := false }
def FnNumberReadsBackPaddedSaid : Prop := fnNumberReadsBackPaddedRow.holds Trym.pinned (OpenSpec.ofChange fnNumberReadsBackPaddedSpec)

/-- ITS FALSE NEIGHBOUR: 'it returns false'. Refute it at one input. -/
def fnNumberReadsBackPaddedWrong : ChangeSpec := { name := "fnNumberReadsBackPadded", fn := fun _ => fun
  | [d1, d2, d3, d4, d5] => { results := [.lit (.bool false)], args := [d1, d2, d3, d4, d5] }
  | _ => none }
def FnNumberReadsBackPaddedWrongFalsely : Prop := fnNumberReadsBackPaddedRow.holds Trym.pinned (OpenSpec.ofChange fnNumberReadsBackPaddedWrong)

/-- 'zzlaws_internal_catalog_b1.FnWriteOverIdempotent': WHATEVER THE INPUT: true; the input reads as it did. -/
def fnWriteOverIdempotentSpec : ChangeSpec := { name := "fnWriteOverIdempotent", fn := fun _ => fun
  | [d1, d2] => { results := [.lit (.bool true)], args := [d1, d2] }
  | _ => none }
def fnWriteOverIdempotentRow : OpenClaim := { program := "qxb6602200amods", sum := "515b5d4cdd39369278d1a899959381088acfdf183b3ab3f817f7952a7e1e367f", func := "example.com/variantum/variantum/zzlaws_internal_catalog_b1.FnWriteOverIdempotent", spec := "fnWriteOverIdempotent", make := .lifted ["publicsums"], apart := false }
def FnWriteOverIdempotentSaid : Prop := fnWriteOverIdempotentRow.holds Trym.pinned (OpenSpec.ofChange fnWriteOverIdempotentSpec)

/-- ITS FALSE NEIGHBOUR: 'it returns false'. Refute it at one input. -/
def fnWriteOverIdempotentWrong : ChangeSpec := { name := "fnWriteOverIdempotent", fn := fun _ => fun
  | [d1, d2] => { results := [.lit (.bool false)], args := [d1, d2] }
  | _ => none }
def FnWriteOverIdempotentWrongFalsely : Prop := fnWriteOverIdempotentRow.holds Trym.pinned (OpenSpec.ofChange fnWriteOverIdempotentWrong)

/-- 'zzlaws_internal_catalog_b1.FnWriteOverLaterWins': WHATEVER THE INPUT: true; the input reads as it did. -/
def fnWriteOverLaterWinsSpec : ChangeSpec := { name := "fnWriteOverLaterWins", fn := fun _ => fun
  | [d1, d2, d3] => { results := [.lit (.bool true)], args := [d1, d2, d3] }
  | _ => none }
def fnWriteOverLaterWinsRow : OpenClaim := { program := "qxb6602200amods", sum := "515b5d4cdd39369278d1a899959381088acfdf183b3ab3f817f7952a7e1e367f", func := "example.com/variantum/variantum/zzlaws_internal_catalog_b1.FnWriteOverLaterWins", spec := "fnWriteOverLaterWins", make := .lifted ["publicsums"], apart := false }
def FnWriteOverLaterWinsSaid : Prop := fnWriteOverLaterWinsRow.holds Trym.pinned (OpenSpec.ofChange fnWriteOverLaterWinsSpec)

/-- ITS FALSE NEIGHBOUR: 'it returns false'. Refute it at one input. -/
def fnWriteOverLaterWinsWrong : ChangeSpec := { name := "fnWriteOverLaterWins", fn := fun _ => fun
  | [d1, d2, d3] => { results := [.lit (.bool false)], args := [d1, d2, d3] }
  | _ => none }
def FnWriteOverLaterWinsWrongFalsely : Prop := fnWriteOverLaterWinsRow.holds Trym.pinned (OpenSpec.ofChange fnWriteOverLaterWinsWrong)

end Rows
end Go.Proofs.Qxb6602200aMods
