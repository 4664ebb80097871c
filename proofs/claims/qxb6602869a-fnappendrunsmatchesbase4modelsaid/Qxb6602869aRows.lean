/-
  No cell of these rows narrows 'for every input' (looked for: loops, veiled, ifaces, maps, wideKeys, modest, calm, conditions, laid).
  DERIVED. THE GIVEN ROWS OF THIS SEAT. 3 by the template 'for every input the law returns true; each argument reads behind the call as it read before'; 0 by the template 'total and deterministic' (their statements: Qxb6602869aTotals.lean).
  GIVEN WITH THE SEED: the statements are not yours to turn. If you find one false, say at which input.
  Laid BY PROGRAM, IN A SANDBOX (cutbox-rows.mjs): the forced cells as the released guide's own fill.sh prints them over the translation 07f3243c6550c76a… (all of the seat's roots in one cut). By AI agents, Wed Nov 11 2026. No macro, syntax, notation, axiom, sorry.
-/
import Derived.Test.Qxb6602869aChecked
import GoSem.Claim
import GoSem.ClaimJoined
import GoSem.ClaimMapViews
import Derived.JoinedTies
import Derived.KernelRfl
namespace Go.Proofs.Qxb6602869a
/- THE CELL 'sum', in the pinned program and in every row, IS THE sha256 OF THE DUMP (.gsa) THAT Qxb6602869aProg.lean LOADS. Nothing in Lean hashes anything: it is a label: what it is worth is what the hold of that sum in a sandbox is worth. -/
noncomputable def Try.pinned : Pinned := { name := "qxb6602869a", sum := "07f3243c6550c76a207d1dc1a34c6a2d837dd5451de47faa2c305544494d666e", checked := Try.checked }
namespace Rows
def none {H : Type} : Left H := { results := [], args := [] }

/-- 'zzlaws_internal_register_b1.FnAppendRunsMatchesBase4Model': WHATEVER THE INPUT: true; the input reads as it did. -/
def fnAppendRunsMatchesBase4ModelSpec : ChangeSpec := { name := "fnAppendRunsMatchesBase4Model", fn := fun _ => fun
  | [d1, d2, d3] => { results := [.lit (.bool true)], args := [d1, d2, d3] }
  | _ => none }
def fnAppendRunsMatchesBase4ModelRow : OpenClaim := { program := "qxb6602869a", sum := "07f3243c6550c76a207d1dc1a34c6a2d837dd5451de47faa2c305544494d666e", func := "example.com/fundcharter/fundcharter/zzlaws_internal_register_b1.FnAppendRunsMatchesBase4Model", spec := "fnAppendRunsMatchesBase4Model", apart := false }
def FnAppendRunsMatchesBase4ModelSaid : Prop := fnAppendRunsMatchesBase4ModelRow.holds Try.pinned (OpenSpec.ofChange fnAppendRunsMatchesBase4ModelSpec)

/-- ITS FALSE NEIGHBOUR: 'it returns false'. Refute it at one input. -/
def fnAppendRunsMatchesBase4ModelWrong : ChangeSpec := { name := "fnAppendRunsMatchesBase4Model", fn := fun _ => fun
  | [d1, d2, d3] => { results := [.lit (.bool false)], args := [d1, d2, d3] }
  | _ => none }
def FnAppendRunsMatchesBase4ModelWrongFalsely : Prop := fnAppendRunsMatchesBase4ModelRow.holds Try.pinned (OpenSpec.ofChange fnAppendRunsMatchesBase4ModelWrong)

/-- 'zzlaws_internal_register_b1.FnAppendRunsPartitionChanges': WHATEVER THE INPUT: true; the input reads as it did. -/
def fnAppendRunsPartitionChangesSpec : ChangeSpec := { name := "fnAppendRunsPartitionChanges", fn := fun _ => fun
  | [d1, d2] => { results := [.lit (.bool true)], args := [d1, d2] }
  | _ => none }
def fnAppendRunsPartitionChangesRow : OpenClaim := { program := "qxb6602869a", sum := "07f3243c6550c76a207d1dc1a34c6a2d837dd5451de47faa2c305544494d666e", func := "example.com/fundcharter/fundcharter/zzlaws_internal_register_b1.FnAppendRunsPartitionChanges", spec := "fnAppendRunsPartitionChanges", apart := false }
def FnAppendRunsPartitionChangesSaid : Prop := fnAppendRunsPartitionChangesRow.holds Try.pinned (OpenSpec.ofChange fnAppendRunsPartitionChangesSpec)

/-- ITS FALSE NEIGHBOUR: 'it returns false'. Refute it at one input. -/
def fnAppendRunsPartitionChangesWrong : ChangeSpec := { name := "fnAppendRunsPartitionChanges", fn := fun _ => fun
  | [d1, d2] => { results := [.lit (.bool false)], args := [d1, d2] }
  | _ => none }
def FnAppendRunsPartitionChangesWrongFalsely : Prop := fnAppendRunsPartitionChangesRow.holds Try.pinned (OpenSpec.ofChange fnAppendRunsPartitionChangesWrong)

/-- 'zzlaws_internal_register_b1.FnAppendRunsCarryOneChange': WHATEVER THE INPUT: true; the input reads as it did. -/
def fnAppendRunsCarryOneChangeSpec : ChangeSpec := { name := "fnAppendRunsCarryOneChange", fn := fun _ => fun
  | [d1, d2] => { results := [.lit (.bool true)], args := [d1, d2] }
  | _ => none }
def fnAppendRunsCarryOneChangeRow : OpenClaim := { program := "qxb6602869a", sum := "07f3243c6550c76a207d1dc1a34c6a2d837dd5451de47faa2c305544494d666e", func := "example.com/fundcharter/fundcharter/zzlaws_internal_register_b1.FnAppendRunsCarryOneChange", spec := "fnAppendRunsCarryOneChange", apart := false }
def FnAppendRunsCarryOneChangeSaid : Prop := fnAppendRunsCarryOneChangeRow.holds Try.pinned (OpenSpec.ofChange fnAppendRunsCarryOneChangeSpec)

/-- ITS FALSE NEIGHBOUR: 'it returns false'. Refute it at one input. -/
def fnAppendRunsCarryOneChangeWrong : ChangeSpec := { name := "fnAppendRunsCarryOneChange", fn := fun _ => fun
  | [d1, d2] => { results := [.lit (.bool false)], args := [d1, d2] }
  | _ => none }
def FnAppendRunsCarryOneChangeWrongFalsely : Prop := fnAppendRunsCarryOneChangeRow.holds Try.pinned (OpenSpec.ofChange fnAppendRunsCarryOneChangeWrong)

end Rows
end Go.Proofs.Qxb6602869a
