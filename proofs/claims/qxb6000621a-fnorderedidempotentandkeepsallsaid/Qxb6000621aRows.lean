/-
  No cell of these rows narrows 'for every input' (looked for: loops, veiled, ifaces, maps, wideKeys, modest, calm, conditions, laid).
  DERIVED. THE GIVEN ROWS OF THIS SEAT. 7 by the template 'for every input the law returns true; each argument reads behind the call as it read before'; 0 by the template 'total and deterministic' (their statements: Qxb6000621aTotals.lean).
  GIVEN WITH THE SEED: the statements are not yours to turn. If you find one false, say at which input.
  Laid BY PROGRAM, IN A SANDBOX (cutbox-rows.mjs): the forced cells as the released guide's own fill.sh prints them over the translation b2c98591cf0b11df… (all of the seat's roots in one cut). By AI agents, Wed Nov 11 2026. No macro, syntax, notation, axiom, sorry.
-/
import Derived.Test.Qxb6000621aChecked
import GoSem.Claim
import GoSem.ClaimJoined
import GoSem.ClaimMapViews
import Derived.JoinedTies
import Derived.KernelRfl
namespace Go.Proofs.Qxb6000621a
/- THE CELL 'sum', in the pinned program and in every row, IS THE sha256 OF THE DUMP (.gsa) THAT Qxb6000621aProg.lean LOADS. Nothing in Lean hashes anything: it is a label: what it is worth is what the hold of that sum in a sandbox is worth. -/
noncomputable def Try.pinned : Pinned := { name := "qxb6000621a", sum := "b2c98591cf0b11dfd91b0b549c584cdee59bd689bab5761703bc26664fda63da", checked := Try.checked }
namespace Rows
def none {H : Type} : Left H := { results := [], args := [] }

/-- 'zzlaws_root_b1.FnOrderedSetOrderFree': WHATEVER THE INPUT: true; the input reads as it did. -/
def fnOrderedSetOrderFreeSpec : ChangeSpec := { name := "fnOrderedSetOrderFree", fn := fun _ => fun
  | [d1, d2] => { results := [.lit (.bool true)], args := [d1, d2] }
  | _ => none }
def fnOrderedSetOrderFreeRow : OpenClaim := { program := "qxb6000621a", sum := "b2c98591cf0b11dfd91b0b549c584cdee59bd689bab5761703bc26664fda63da", func := "example.com/orgwire/orgwire/zzlaws_root_b1.FnOrderedSetOrderFree", spec := "fnOrderedSetOrderFree", apart := false }
def FnOrderedSetOrderFreeSaid : Prop := fnOrderedSetOrderFreeRow.holds Try.pinned (OpenSpec.ofChange fnOrderedSetOrderFreeSpec)

/-- ITS FALSE NEIGHBOUR: 'it returns false'. Refute it at one input. -/
def fnOrderedSetOrderFreeWrong : ChangeSpec := { name := "fnOrderedSetOrderFree", fn := fun _ => fun
  | [d1, d2] => { results := [.lit (.bool false)], args := [d1, d2] }
  | _ => none }
def FnOrderedSetOrderFreeWrongFalsely : Prop := fnOrderedSetOrderFreeRow.holds Try.pinned (OpenSpec.ofChange fnOrderedSetOrderFreeWrong)

/-- 'zzlaws_root_b1.FnOrderedSplitsOverValues': WHATEVER THE INPUT: true; the input reads as it did. -/
def fnOrderedSplitsOverValuesSpec : ChangeSpec := { name := "fnOrderedSplitsOverValues", fn := fun _ => fun
  | [d1, d2, d3] => { results := [.lit (.bool true)], args := [d1, d2, d3] }
  | _ => none }
def fnOrderedSplitsOverValuesRow : OpenClaim := { program := "qxb6000621a", sum := "b2c98591cf0b11dfd91b0b549c584cdee59bd689bab5761703bc26664fda63da", func := "example.com/orgwire/orgwire/zzlaws_root_b1.FnOrderedSplitsOverValues", spec := "fnOrderedSplitsOverValues", apart := false }
def FnOrderedSplitsOverValuesSaid : Prop := fnOrderedSplitsOverValuesRow.holds Try.pinned (OpenSpec.ofChange fnOrderedSplitsOverValuesSpec)

/-- ITS FALSE NEIGHBOUR: 'it returns false'. Refute it at one input. -/
def fnOrderedSplitsOverValuesWrong : ChangeSpec := { name := "fnOrderedSplitsOverValues", fn := fun _ => fun
  | [d1, d2, d3] => { results := [.lit (.bool false)], args := [d1, d2, d3] }
  | _ => none }
def FnOrderedSplitsOverValuesWrongFalsely : Prop := fnOrderedSplitsOverValuesRow.holds Try.pinned (OpenSpec.ofChange fnOrderedSplitsOverValuesWrong)

/-- 'zzlaws_root_b1.FnOrderedIdempotentAndKeepsAll': WHATEVER THE INPUT: true; the input reads as it did. -/
def fnOrderedIdempotentAndKeepsAllSpec : ChangeSpec := { name := "fnOrderedIdempotentAndKeepsAll", fn := fun _ => fun
  | [d1, d2] => { results := [.lit (.bool true)], args := [d1, d2] }
  | _ => none }
def fnOrderedIdempotentAndKeepsAllRow : OpenClaim := { program := "qxb6000621a", sum := "b2c98591cf0b11dfd91b0b549c584cdee59bd689bab5761703bc26664fda63da", func := "example.com/orgwire/orgwire/zzlaws_root_b1.FnOrderedIdempotentAndKeepsAll", spec := "fnOrderedIdempotentAndKeepsAll", apart := false }
def FnOrderedIdempotentAndKeepsAllSaid : Prop := fnOrderedIdempotentAndKeepsAllRow.holds Try.pinned (OpenSpec.ofChange fnOrderedIdempotentAndKeepsAllSpec)

/-- ITS FALSE NEIGHBOUR: 'it returns false'. Refute it at one input. -/
def fnOrderedIdempotentAndKeepsAllWrong : ChangeSpec := { name := "fnOrderedIdempotentAndKeepsAll", fn := fun _ => fun
  | [d1, d2] => { results := [.lit (.bool false)], args := [d1, d2] }
  | _ => none }
def FnOrderedIdempotentAndKeepsAllWrongFalsely : Prop := fnOrderedIdempotentAndKeepsAllRow.holds Try.pinned (OpenSpec.ofChange fnOrderedIdempotentAndKeepsAllWrong)

/-- 'zzlaws_root_b1.FnDigitValueMatchesHexTable': WHATEVER THE INPUT: true; the input reads as it did. -/
def fnDigitValueMatchesHexTableSpec : ChangeSpec := { name := "fnDigitValueMatchesHexTable", fn := fun _ => fun
  | [d] => { results := [.lit (.bool true)], args := [d] }
  | _ => none }
def fnDigitValueMatchesHexTableRow : OpenClaim := { program := "qxb6000621a", sum := "b2c98591cf0b11dfd91b0b549c584cdee59bd689bab5761703bc26664fda63da", func := "example.com/orgwire/orgwire/zzlaws_root_b1.FnDigitValueMatchesHexTable", spec := "fnDigitValueMatchesHexTable", apart := false }
def FnDigitValueMatchesHexTableSaid : Prop := fnDigitValueMatchesHexTableRow.holds Try.pinned (OpenSpec.ofChange fnDigitValueMatchesHexTableSpec)

/-- ITS FALSE NEIGHBOUR: 'it returns false'. Refute it at one input. -/
def fnDigitValueMatchesHexTableWrong : ChangeSpec := { name := "fnDigitValueMatchesHexTable", fn := fun _ => fun
  | [d] => { results := [.lit (.bool false)], args := [d] }
  | _ => none }
def FnDigitValueMatchesHexTableWrongFalsely : Prop := fnDigitValueMatchesHexTableRow.holds Try.pinned (OpenSpec.ofChange fnDigitValueMatchesHexTableWrong)

/-- 'zzlaws_root_b1.FnDigitValueIgnoresLetterCase': WHATEVER THE INPUT: true; the input reads as it did. -/
def fnDigitValueIgnoresLetterCaseSpec : ChangeSpec := { name := "fnDigitValueIgnoresLetterCase", fn := fun _ => fun
  | [d] => { results := [.lit (.bool true)], args := [d] }
  | _ => none }
def fnDigitValueIgnoresLetterCaseRow : OpenClaim := { program := "qxb6000621a", sum := "b2c98591cf0b11dfd91b0b549c584cdee59bd689bab5761703bc26664fda63da", func := "example.com/orgwire/orgwire/zzlaws_root_b1.FnDigitValueIgnoresLetterCase", spec := "fnDigitValueIgnoresLetterCase", apart := false }
def FnDigitValueIgnoresLetterCaseSaid : Prop := fnDigitValueIgnoresLetterCaseRow.holds Try.pinned (OpenSpec.ofChange fnDigitValueIgnoresLetterCaseSpec)

/-- ITS FALSE NEIGHBOUR: 'it returns false'. Refute it at one input. -/
def fnDigitValueIgnoresLetterCaseWrong : ChangeSpec := { name := "fnDigitValueIgnoresLetterCase", fn := fun _ => fun
  | [d] => { results := [.lit (.bool false)], args := [d] }
  | _ => none }
def FnDigitValueIgnoresLetterCaseWrongFalsely : Prop := fnDigitValueIgnoresLetterCaseRow.holds Try.pinned (OpenSpec.ofChange fnDigitValueIgnoresLetterCaseWrong)

/-- 'zzlaws_root_b1.FnIsCollapsedMatchesCollapseModel': WHATEVER THE INPUT: true; the input reads as it did. -/
def fnIsCollapsedMatchesCollapseModelSpec : ChangeSpec := { name := "fnIsCollapsedMatchesCollapseModel", fn := fun _ => fun
  | [d] => { results := [.lit (.bool true)], args := [d] }
  | _ => none }
def fnIsCollapsedMatchesCollapseModelRow : OpenClaim := { program := "qxb6000621a", sum := "b2c98591cf0b11dfd91b0b549c584cdee59bd689bab5761703bc26664fda63da", func := "example.com/orgwire/orgwire/zzlaws_root_b1.FnIsCollapsedMatchesCollapseModel", spec := "fnIsCollapsedMatchesCollapseModel", apart := false }
def FnIsCollapsedMatchesCollapseModelSaid : Prop := fnIsCollapsedMatchesCollapseModelRow.holds Try.pinned (OpenSpec.ofChange fnIsCollapsedMatchesCollapseModelSpec)

/-- ITS FALSE NEIGHBOUR: 'it returns false'. Refute it at one input. -/
def fnIsCollapsedMatchesCollapseModelWrong : ChangeSpec := { name := "fnIsCollapsedMatchesCollapseModel", fn := fun _ => fun
  | [d] => { results := [.lit (.bool false)], args := [d] }
  | _ => none }
def FnIsCollapsedMatchesCollapseModelWrongFalsely : Prop := fnIsCollapsedMatchesCollapseModelRow.holds Try.pinned (OpenSpec.ofChange fnIsCollapsedMatchesCollapseModelWrong)

/-- 'zzlaws_root_b1.FnIsCollapsedJoinBySpace': WHATEVER THE INPUT: true; the input reads as it did. -/
def fnIsCollapsedJoinBySpaceSpec : ChangeSpec := { name := "fnIsCollapsedJoinBySpace", fn := fun _ => fun
  | [d1, d2] => { results := [.lit (.bool true)], args := [d1, d2] }
  | _ => none }
def fnIsCollapsedJoinBySpaceRow : OpenClaim := { program := "qxb6000621a", sum := "b2c98591cf0b11dfd91b0b549c584cdee59bd689bab5761703bc26664fda63da", func := "example.com/orgwire/orgwire/zzlaws_root_b1.FnIsCollapsedJoinBySpace", spec := "fnIsCollapsedJoinBySpace", apart := false }
def FnIsCollapsedJoinBySpaceSaid : Prop := fnIsCollapsedJoinBySpaceRow.holds Try.pinned (OpenSpec.ofChange fnIsCollapsedJoinBySpaceSpec)

/-- ITS FALSE NEIGHBOUR: 'it returns false'. Refute it at one input. -/
def fnIsCollapsedJoinBySpaceWrong : ChangeSpec := { name := "fnIsCollapsedJoinBySpace", fn := fun _ => fun
  | [d1, d2] => { results := [.lit (.bool false)], args := [d1, d2] }
  | _ => none }
def FnIsCollapsedJoinBySpaceWrongFalsely : Prop := fnIsCollapsedJoinBySpaceRow.holds Try.pinned (OpenSpec.ofChange fnIsCollapsedJoinBySpaceWrong)

end Rows
end Go.Proofs.Qxb6000621a
