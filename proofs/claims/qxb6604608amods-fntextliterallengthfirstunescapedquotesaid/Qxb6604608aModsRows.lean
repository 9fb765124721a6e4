/-
  No cell of these rows narrows 'for every input' (looked for: loops, veiled, ifaces, maps, wideKeys, modest, calm, conditions, laid).
  DERIVED. THE GIVEN ROWS OF THIS SEAT. 3 by the template 'for every input the law returns true; each argument reads behind the call as it read before'; 0 by the template 'total and deterministic' (their statements: Qxb6604608aModsTotals.lean).
  GIVEN WITH THE SEED: the statements are not yours to turn. If you find one false, say at which input.
  Laid BY PROGRAM, IN A SANDBOX (cutbox-rows.mjs): the forced cells as the released guide's own fill.sh prints them over the translation c79818b4f97168f8… (all of the seat's roots in one cut). By AI agents, Wed Nov 11 2026. No macro, syntax, notation, axiom, sorry.
-/
import Derived.Test.Qxb6604608aModsChecked
import GoSem.Claim
import GoSem.ClaimJoined
import GoSem.ClaimMapViews
import Derived.JoinedTies
import Derived.KernelRfl
namespace Go.Proofs.Qxb6604608aMods
/- THE CELL 'sum', in the pinned program and in every row, IS THE sha256 OF THE DUMP (.gsa) THAT Qxb6604608aModsProg.lean LOADS. Nothing in Lean hashes anything: it is a label: what it is worth is what the hold of that sum in a sandbox is worth. -/
noncomputable def Trym.pinned : Pinned := { name := "qxb6604608amods", sum := "c79818b4f97168f8ae5471b4e16964369909caa68f08ced6cf7f2e431fc7c57e", checked := Trym.checked }
namespace Rows
def none {H : Type} : Left H := { results := [], args := [] }

/-- 'zzlaws_root_b1.FnBoolRankSortsFalseFirst': WHATEVER THE INPUT: true; the input reads as it did. -/
def fnBoolRankSortsFalseFirstSpec : ChangeSpec := { name := "fnBoolRankSortsFalseFirst", fn := fun _ => fun
  | [d1, d2] => { results := [.lit (.bool true)], args := [d1, d2] }
  | _ => none }
def fnBoolRankSortsFalseFirstRow : OpenClaim := { program := "qxb6604608amods", sum := "c79818b4f97168f8ae5471b4e16964369909caa68f08ced6cf7f2e431fc7c57e", func := "example.com/mainz/mainz/zzlaws_root_b1.FnBoolRankSortsFalseFirst", spec := "fnBoolRankSortsFalseFirst", make := .lifted ["publicsums"], apart := false }
def FnBoolRankSortsFalseFirstSaid : Prop := fnBoolRankSortsFalseFirstRow.holds Trym.pinned (OpenSpec.ofChange fnBoolRankSortsFalseFirstSpec)

/-- ITS FALSE NEIGHBOUR: 'it returns false'. Refute it at one input. -/
def fnBoolRankSortsFalseFirstWrong : ChangeSpec := { name := "fnBoolRankSortsFalseFirst", fn := fun _ => fun
  | [d1, d2] => { results := [.lit (.bool false)], args := [d1, d2] }
  | _ => none }
def FnBoolRankSortsFalseFirstWrongFalsely : Prop := fnBoolRankSortsFalseFirstRow.holds Trym.pinned (OpenSpec.ofChange fnBoolRankSortsFalseFirstWrong)

/-- 'zzlaws_root_b1.FnTextLiteralLengthFirstUnescapedQuote': WHATEVER THE INPUT: true; the input reads as it did. -/
def fnTextLiteralLengthFirstUnescapedQuoteSpec : ChangeSpec := { name := "fnTextLiteralLengthFirstUnescapedQuote", fn := fun _ => fun
  | [d] => { results := [.lit (.bool true)], args := [d] }
  | _ => none }
def fnTextLiteralLengthFirstUnescapedQuoteRow : OpenClaim := { program := "qxb6604608amods", sum := "c79818b4f97168f8ae5471b4e16964369909caa68f08ced6cf7f2e431fc7c57e", func := "example.com/mainz/mainz/zzlaws_root_b1.FnTextLiteralLengthFirstUnescapedQuote", spec := "fnTextLiteralLengthFirstUnescapedQuote", make := .lifted ["publicsums"], apart := false }
def FnTextLiteralLengthFirstUnescapedQuoteSaid : Prop := fnTextLiteralLengthFirstUnescapedQuoteRow.holds Trym.pinned (OpenSpec.ofChange fnTextLiteralLengthFirstUnescapedQuoteSpec)

/-- ITS FALSE NEIGHBOUR: 'it returns false'. Refute it at one input. -/
def fnTextLiteralLengthFirstUnescapedQuoteWrong : ChangeSpec := { name := "fnTextLiteralLengthFirstUnescapedQuote", fn := fun _ => fun
  | [d] => { results := [.lit (.bool false)], args := [d] }
  | _ => none }
def FnTextLiteralLengthFirstUnescapedQuoteWrongFalsely : Prop := fnTextLiteralLengthFirstUnescapedQuoteRow.holds Trym.pinned (OpenSpec.ofChange fnTextLiteralLengthFirstUnescapedQuoteWrong)

/-- 'zzlaws_root_b1.FnTextLiteralLengthPrefixStable': WHATEVER THE INPUT: true; the input reads as it did. -/
def fnTextLiteralLengthPrefixStableSpec : ChangeSpec := { name := "fnTextLiteralLengthPrefixStable", fn := fun _ => fun
  | [d1, d2] => { results := [.lit (.bool true)], args := [d1, d2] }
  | _ => none }
def fnTextLiteralLengthPrefixStableRow : OpenClaim := { program := "qxb6604608amods", sum := "c79818b4f97168f8ae5471b4e16964369909caa68f08ced6cf7f2e431fc7c57e", func := "example.com/mainz/mainz/zzlaws_root_b1.FnTextLiteralLengthPrefixStable", spec := "fnTextLiteralLengthPrefixStable", make := .lifted ["publicsums"], apart := false }
def FnTextLiteralLengthPrefixStableSaid : Prop := fnTextLiteralLengthPrefixStableRow.holds Trym.pinned (OpenSpec.ofChange fnTextLiteralLengthPrefixStableSpec)

/-- ITS FALSE NEIGHBOUR: 'it returns false'. Refute it at one input. -/
def fnTextLiteralLengthPrefixStableWrong : ChangeSpec := { name := "fnTextLiteralLengthPrefixStable", fn := fun _ => fun
  | [d1, d2] => { results := [.lit (.bool false)], args := [d1, d2] }
  | _ => none }
def FnTextLiteralLengthPrefixStableWrongFalsely : Prop := fnTextLiteralLengthPrefixStableRow.holds Trym.pinned (OpenSpec.ofChange fnTextLiteralLengthPrefixStableWrong)

end Rows
end Go.Proofs.Qxb6604608aMods
