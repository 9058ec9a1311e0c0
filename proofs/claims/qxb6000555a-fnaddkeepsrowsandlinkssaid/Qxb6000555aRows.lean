/-
  No cell of these rows narrows 'for every input' (looked for: loops, veiled, ifaces, maps, wideKeys, modest, calm, conditions, laid).
  DERIVED. THE GIVEN ROWS OF THIS SEAT. 4 by the template 'for every input the law returns true; each argument reads behind the call as it read before'; 0 by the template 'total and deterministic' (their statements: Qxb6000555aTotals.lean).
  GIVEN WITH THE SEED: the statements are not yours to turn. If you find one false, say at which input.
  Laid BY PROGRAM, IN A SANDBOX (cutbox-rows.mjs): the forced cells as the released guide's own fill.sh prints them over the translation b927021f714f54a3… (all of the seat's roots in one cut). By AI agents, Wed Nov 11 2026. No macro, syntax, notation, axiom, sorry.
-/
import Derived.Test.Qxb6000555aChecked
import GoSem.Claim
import GoSem.ClaimJoined
import GoSem.ClaimMapViews
import Derived.JoinedTies
import Derived.KernelRfl
namespace Go.Proofs.Qxb6000555a
/- THE CELL 'sum', in the pinned program and in every row, IS THE sha256 OF THE DUMP (.gsa) THAT Qxb6000555aProg.lean LOADS. Nothing in Lean hashes anything: it is a label: what it is worth is what the hold of that sum in a sandbox is worth. -/
noncomputable def Try.pinned : Pinned := { name := "qxb6000555a", sum := "b927021f714f54a329e5b0d370e444142cecb43b3d8bb8595e8eb1244795b7bb", checked := Try.checked }
namespace Rows
def none {H : Type} : Left H := { results := [], args := [] }

/-- 'zzlaws_pkg_appraisal_b1.FnChainIndexDenseFirstSeen': WHATEVER THE INPUT: true; the input reads as it did. -/
def fnChainIndexDenseFirstSeenSpec : ChangeSpec := { name := "fnChainIndexDenseFirstSeen", fn := fun _ => fun
  | [d] => { results := [.lit (.bool true)], args := [d] }
  | _ => none }
def fnChainIndexDenseFirstSeenRow : OpenClaim := { program := "qxb6000555a", sum := "b927021f714f54a329e5b0d370e444142cecb43b3d8bb8595e8eb1244795b7bb", func := "example.com/vestline/vestline/zzlaws_pkg_appraisal_b1.FnChainIndexDenseFirstSeen", spec := "fnChainIndexDenseFirstSeen", plainKeys := false, apart := false }
def FnChainIndexDenseFirstSeenSaid : Prop := fnChainIndexDenseFirstSeenRow.holds Try.pinned (OpenSpec.ofChange fnChainIndexDenseFirstSeenSpec)

/-- ITS FALSE NEIGHBOUR: 'it returns false'. Refute it at one input. -/
def fnChainIndexDenseFirstSeenWrong : ChangeSpec := { name := "fnChainIndexDenseFirstSeen", fn := fun _ => fun
  | [d] => { results := [.lit (.bool false)], args := [d] }
  | _ => none }
def FnChainIndexDenseFirstSeenWrongFalsely : Prop := fnChainIndexDenseFirstSeenRow.holds Try.pinned (OpenSpec.ofChange fnChainIndexDenseFirstSeenWrong)

/-- 'zzlaws_pkg_appraisal_b1.FnAddKeepsRowsAndLinks': WHATEVER THE INPUT: true; the input reads as it did. -/
def fnAddKeepsRowsAndLinksSpec : ChangeSpec := { name := "fnAddKeepsRowsAndLinks", fn := fun _ => fun
  | [d1, d2] => { results := [.lit (.bool true)], args := [d1, d2] }
  | _ => none }
def fnAddKeepsRowsAndLinksRow : OpenClaim := { program := "qxb6000555a", sum := "b927021f714f54a329e5b0d370e444142cecb43b3d8bb8595e8eb1244795b7bb", func := "example.com/vestline/vestline/zzlaws_pkg_appraisal_b1.FnAddKeepsRowsAndLinks", spec := "fnAddKeepsRowsAndLinks", plainKeys := false, apart := false }
def FnAddKeepsRowsAndLinksSaid : Prop := fnAddKeepsRowsAndLinksRow.holds Try.pinned (OpenSpec.ofChange fnAddKeepsRowsAndLinksSpec)

/-- ITS FALSE NEIGHBOUR: 'it returns false'. Refute it at one input. -/
def fnAddKeepsRowsAndLinksWrong : ChangeSpec := { name := "fnAddKeepsRowsAndLinks", fn := fun _ => fun
  | [d1, d2] => { results := [.lit (.bool false)], args := [d1, d2] }
  | _ => none }
def FnAddKeepsRowsAndLinksWrongFalsely : Prop := fnAddKeepsRowsAndLinksRow.holds Try.pinned (OpenSpec.ofChange fnAddKeepsRowsAndLinksWrong)

/-- 'zzlaws_pkg_appraisal_b1.FnRowForAnswersARowOfThatYear': WHATEVER THE INPUT: true; the input reads as it did. -/
def fnRowForAnswersARowOfThatYearSpec : ChangeSpec := { name := "fnRowForAnswersARowOfThatYear", fn := fun _ => fun
  | [d1, d2, d3, d4] => { results := [.lit (.bool true)], args := [d1, d2, d3, d4] }
  | _ => none }
def fnRowForAnswersARowOfThatYearRow : OpenClaim := { program := "qxb6000555a", sum := "b927021f714f54a329e5b0d370e444142cecb43b3d8bb8595e8eb1244795b7bb", func := "example.com/vestline/vestline/zzlaws_pkg_appraisal_b1.FnRowForAnswersARowOfThatYear", spec := "fnRowForAnswersARowOfThatYear", plainKeys := false, apart := false }
def FnRowForAnswersARowOfThatYearSaid : Prop := fnRowForAnswersARowOfThatYearRow.holds Try.pinned (OpenSpec.ofChange fnRowForAnswersARowOfThatYearSpec)

/-- ITS FALSE NEIGHBOUR: 'it returns false'. Refute it at one input. -/
def fnRowForAnswersARowOfThatYearWrong : ChangeSpec := { name := "fnRowForAnswersARowOfThatYear", fn := fun _ => fun
  | [d1, d2, d3, d4] => { results := [.lit (.bool false)], args := [d1, d2, d3, d4] }
  | _ => none }
def FnRowForAnswersARowOfThatYearWrongFalsely : Prop := fnRowForAnswersARowOfThatYearRow.holds Try.pinned (OpenSpec.ofChange fnRowForAnswersARowOfThatYearWrong)

/-- 'zzlaws_pkg_appraisal_b1.FnRowForExactWithoutRepeats': WHATEVER THE INPUT: true; the input reads as it did. -/
def fnRowForExactWithoutRepeatsSpec : ChangeSpec := { name := "fnRowForExactWithoutRepeats", fn := fun _ => fun
  | [d1, d2, d3, d4] => { results := [.lit (.bool true)], args := [d1, d2, d3, d4] }
  | _ => none }
def fnRowForExactWithoutRepeatsRow : OpenClaim := { program := "qxb6000555a", sum := "b927021f714f54a329e5b0d370e444142cecb43b3d8bb8595e8eb1244795b7bb", func := "example.com/vestline/vestline/zzlaws_pkg_appraisal_b1.FnRowForExactWithoutRepeats", spec := "fnRowForExactWithoutRepeats", plainKeys := false, apart := false }
def FnRowForExactWithoutRepeatsSaid : Prop := fnRowForExactWithoutRepeatsRow.holds Try.pinned (OpenSpec.ofChange fnRowForExactWithoutRepeatsSpec)

/-- ITS FALSE NEIGHBOUR: 'it returns false'. Refute it at one input. -/
def fnRowForExactWithoutRepeatsWrong : ChangeSpec := { name := "fnRowForExactWithoutRepeats", fn := fun _ => fun
  | [d1, d2, d3, d4] => { results := [.lit (.bool false)], args := [d1, d2, d3, d4] }
  | _ => none }
def FnRowForExactWithoutRepeatsWrongFalsely : Prop := fnRowForExactWithoutRepeatsRow.holds Try.pinned (OpenSpec.ofChange fnRowForExactWithoutRepeatsWrong)

end Rows
end Go.Proofs.Qxb6000555a
