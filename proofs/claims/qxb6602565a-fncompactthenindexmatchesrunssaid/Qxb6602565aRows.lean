/-
  NARROWER THAN 'FOR EVERY INPUT', by the rows' own cells (each row's printed sentence says how): FnNodeRaisesExactlyTheLargerEntries: loops · FnNodeSmallerMostKeepsAPrefix: loops.
  DERIVED. THE GIVEN ROWS OF THIS SEAT. 5 by the template 'for every input the law returns true; each argument reads behind the call as it read before'; 0 by the template 'total and deterministic' (their statements: Qxb6602565aTotals.lean).
  GIVEN WITH THE SEED: the statements are not yours to turn. If you find one false, say at which input.
  Laid BY PROGRAM, IN A SANDBOX (cutbox-rows.mjs): the forced cells as the released guide's own fill.sh prints them over the translation 0e8d1bd745523155… (all of the seat's roots in one cut). By AI agents, Wed Nov 11 2026. No macro, syntax, notation, axiom, sorry.
-/
import Derived.Test.Qxb6602565aChecked
import GoSem.Claim
import GoSem.ClaimJoined
import GoSem.ClaimMapViews
import Derived.JoinedTies
import Derived.KernelRfl
namespace Go.Proofs.Qxb6602565a
/- THE CELL 'sum', in the pinned program and in every row, IS THE sha256 OF THE DUMP (.gsa) THAT Qxb6602565aProg.lean LOADS. Nothing in Lean hashes anything: it is a label: what it is worth is what the hold of that sum in a sandbox is worth. -/
noncomputable def Try.pinned : Pinned := { name := "qxb6602565a", sum := "0e8d1bd745523155af9cfdf2ca2cc4527ef0c75776f8ef46dafcda2caeed9314", checked := Try.checked }
namespace Rows
def none {H : Type} : Left H := { results := [], args := [] }

/-- 'zzlaws_pkg_race_b1.FnNodeRaisesExactlyTheLargerEntries': WHATEVER THE INPUT: true; the input reads as it did. -/
def fnNodeRaisesExactlyTheLargerEntriesSpec : ChangeSpec := { name := "fnNodeRaisesExactlyTheLargerEntries", fn := fun _ => fun
  | [d1, d2, d3, d4, d5, d6] => { results := [.lit (.bool true)], args := [d1, d2, d3, d4, d5, d6] }
  | _ => none }
def fnNodeRaisesExactlyTheLargerEntriesRow : OpenClaim := { program := "qxb6602565a", sum := "0e8d1bd745523155af9cfdf2ca2cc4527ef0c75776f8ef46dafcda2caeed9314", func := "example.com/happenstance/happenstance/zzlaws_pkg_race_b1.FnNodeRaisesExactlyTheLargerEntries", spec := "fnNodeRaisesExactlyTheLargerEntries", recurses := true, loops := true, apart := false }
def FnNodeRaisesExactlyTheLargerEntriesSaid : Prop := fnNodeRaisesExactlyTheLargerEntriesRow.holds Try.pinned (OpenSpec.ofChange fnNodeRaisesExactlyTheLargerEntriesSpec)

/-- ITS FALSE NEIGHBOUR: 'it returns false'. Refute it at one input. -/
def fnNodeRaisesExactlyTheLargerEntriesWrong : ChangeSpec := { name := "fnNodeRaisesExactlyTheLargerEntries", fn := fun _ => fun
  | [d1, d2, d3, d4, d5, d6] => { results := [.lit (.bool false)], args := [d1, d2, d3, d4, d5, d6] }
  | _ => none }
def FnNodeRaisesExactlyTheLargerEntriesWrongFalsely : Prop := fnNodeRaisesExactlyTheLargerEntriesRow.holds Try.pinned (OpenSpec.ofChange fnNodeRaisesExactlyTheLargerEntriesWrong)

/-- 'zzlaws_pkg_race_b1.FnNodeSmallerMostKeepsAPrefix': WHATEVER THE INPUT: true; the input reads as it did. -/
def fnNodeSmallerMostKeepsAPrefixSpec : ChangeSpec := { name := "fnNodeSmallerMostKeepsAPrefix", fn := fun _ => fun
  | [d1, d2, d3, d4, d5, d6] => { results := [.lit (.bool true)], args := [d1, d2, d3, d4, d5, d6] }
  | _ => none }
def fnNodeSmallerMostKeepsAPrefixRow : OpenClaim := { program := "qxb6602565a", sum := "0e8d1bd745523155af9cfdf2ca2cc4527ef0c75776f8ef46dafcda2caeed9314", func := "example.com/happenstance/happenstance/zzlaws_pkg_race_b1.FnNodeSmallerMostKeepsAPrefix", spec := "fnNodeSmallerMostKeepsAPrefix", recurses := true, loops := true, apart := false }
def FnNodeSmallerMostKeepsAPrefixSaid : Prop := fnNodeSmallerMostKeepsAPrefixRow.holds Try.pinned (OpenSpec.ofChange fnNodeSmallerMostKeepsAPrefixSpec)

/-- ITS FALSE NEIGHBOUR: 'it returns false'. Refute it at one input. -/
def fnNodeSmallerMostKeepsAPrefixWrong : ChangeSpec := { name := "fnNodeSmallerMostKeepsAPrefix", fn := fun _ => fun
  | [d1, d2, d3, d4, d5, d6] => { results := [.lit (.bool false)], args := [d1, d2, d3, d4, d5, d6] }
  | _ => none }
def FnNodeSmallerMostKeepsAPrefixWrongFalsely : Prop := fnNodeSmallerMostKeepsAPrefixRow.holds Try.pinned (OpenSpec.ofChange fnNodeSmallerMostKeepsAPrefixWrong)

/-- 'zzlaws_pkg_race_b1.FnIndexBuildsEveryRunsMarks': WHATEVER THE INPUT: true; the input reads as it did. -/
def fnIndexBuildsEveryRunsMarksSpec : ChangeSpec := { name := "fnIndexBuildsEveryRunsMarks", fn := fun _ => fun
  | [d1, d2] => { results := [.lit (.bool true)], args := [d1, d2] }
  | _ => none }
def fnIndexBuildsEveryRunsMarksRow : OpenClaim := { program := "qxb6602565a", sum := "0e8d1bd745523155af9cfdf2ca2cc4527ef0c75776f8ef46dafcda2caeed9314", func := "example.com/happenstance/happenstance/zzlaws_pkg_race_b1.FnIndexBuildsEveryRunsMarks", spec := "fnIndexBuildsEveryRunsMarks", apart := false }
def FnIndexBuildsEveryRunsMarksSaid : Prop := fnIndexBuildsEveryRunsMarksRow.holds Try.pinned (OpenSpec.ofChange fnIndexBuildsEveryRunsMarksSpec)

/-- ITS FALSE NEIGHBOUR: 'it returns false'. Refute it at one input. -/
def fnIndexBuildsEveryRunsMarksWrong : ChangeSpec := { name := "fnIndexBuildsEveryRunsMarks", fn := fun _ => fun
  | [d1, d2] => { results := [.lit (.bool false)], args := [d1, d2] }
  | _ => none }
def FnIndexBuildsEveryRunsMarksWrongFalsely : Prop := fnIndexBuildsEveryRunsMarksRow.holds Try.pinned (OpenSpec.ofChange fnIndexBuildsEveryRunsMarksWrong)

/-- 'zzlaws_pkg_race_b1.FnCompactKeepsRecordedAccessesInOrder': WHATEVER THE INPUT: true; the input reads as it did. -/
def fnCompactKeepsRecordedAccessesInOrderSpec : ChangeSpec := { name := "fnCompactKeepsRecordedAccessesInOrder", fn := fun _ => fun
  | [d1, d2] => { results := [.lit (.bool true)], args := [d1, d2] }
  | _ => none }
def fnCompactKeepsRecordedAccessesInOrderRow : OpenClaim := { program := "qxb6602565a", sum := "0e8d1bd745523155af9cfdf2ca2cc4527ef0c75776f8ef46dafcda2caeed9314", func := "example.com/happenstance/happenstance/zzlaws_pkg_race_b1.FnCompactKeepsRecordedAccessesInOrder", spec := "fnCompactKeepsRecordedAccessesInOrder", apart := false }
def FnCompactKeepsRecordedAccessesInOrderSaid : Prop := fnCompactKeepsRecordedAccessesInOrderRow.holds Try.pinned (OpenSpec.ofChange fnCompactKeepsRecordedAccessesInOrderSpec)

/-- ITS FALSE NEIGHBOUR: 'it returns false'. Refute it at one input. -/
def fnCompactKeepsRecordedAccessesInOrderWrong : ChangeSpec := { name := "fnCompactKeepsRecordedAccessesInOrder", fn := fun _ => fun
  | [d1, d2] => { results := [.lit (.bool false)], args := [d1, d2] }
  | _ => none }
def FnCompactKeepsRecordedAccessesInOrderWrongFalsely : Prop := fnCompactKeepsRecordedAccessesInOrderRow.holds Try.pinned (OpenSpec.ofChange fnCompactKeepsRecordedAccessesInOrderWrong)

/-- 'zzlaws_pkg_race_b1.FnCompactThenIndexMatchesRuns': WHATEVER THE INPUT: true; the input reads as it did. -/
def fnCompactThenIndexMatchesRunsSpec : ChangeSpec := { name := "fnCompactThenIndexMatchesRuns", fn := fun _ => fun
  | [d1, d2] => { results := [.lit (.bool true)], args := [d1, d2] }
  | _ => none }
def fnCompactThenIndexMatchesRunsRow : OpenClaim := { program := "qxb6602565a", sum := "0e8d1bd745523155af9cfdf2ca2cc4527ef0c75776f8ef46dafcda2caeed9314", func := "example.com/happenstance/happenstance/zzlaws_pkg_race_b1.FnCompactThenIndexMatchesRuns", spec := "fnCompactThenIndexMatchesRuns", apart := false }
def FnCompactThenIndexMatchesRunsSaid : Prop := fnCompactThenIndexMatchesRunsRow.holds Try.pinned (OpenSpec.ofChange fnCompactThenIndexMatchesRunsSpec)

/-- ITS FALSE NEIGHBOUR: 'it returns false'. Refute it at one input. -/
def fnCompactThenIndexMatchesRunsWrong : ChangeSpec := { name := "fnCompactThenIndexMatchesRuns", fn := fun _ => fun
  | [d1, d2] => { results := [.lit (.bool false)], args := [d1, d2] }
  | _ => none }
def FnCompactThenIndexMatchesRunsWrongFalsely : Prop := fnCompactThenIndexMatchesRunsRow.holds Try.pinned (OpenSpec.ofChange fnCompactThenIndexMatchesRunsWrong)

end Rows
end Go.Proofs.Qxb6602565a
