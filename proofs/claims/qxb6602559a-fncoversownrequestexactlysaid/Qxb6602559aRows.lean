/-
  No cell of these rows narrows 'for every input' (looked for: loops, veiled, ifaces, maps, wideKeys, modest, calm, conditions, laid).
  DERIVED. THE GIVEN ROWS OF THIS SEAT. 6 by the template 'for every input the law returns true; each argument reads behind the call as it read before'; 0 by the template 'total and deterministic' (their statements: Qxb6602559aTotals.lean).
  GIVEN WITH THE SEED: the statements are not yours to turn. If you find one false, say at which input.
  Laid BY PROGRAM, IN A SANDBOX (cutbox-rows.mjs): the forced cells as the released guide's own fill.sh prints them over the translation 4fe15ed2bd6546e6… (all of the seat's roots in one cut). By AI agents, Wed Nov 11 2026. No macro, syntax, notation, axiom, sorry.
-/
import Derived.Test.Qxb6602559aChecked
import GoSem.Claim
import GoSem.ClaimJoined
import GoSem.ClaimMapViews
import Derived.JoinedTies
import Derived.KernelRfl
namespace Go.Proofs.Qxb6602559a
/- THE CELL 'sum', in the pinned program and in every row, IS THE sha256 OF THE DUMP (.gsa) THAT Qxb6602559aProg.lean LOADS. Nothing in Lean hashes anything: it is a label: what it is worth is what the hold of that sum in a sandbox is worth. -/
noncomputable def Try.pinned : Pinned := { name := "qxb6602559a", sum := "4fe15ed2bd6546e6129e0dcad19d9d0897be7664cd348f144b633cf647181632", checked := Try.checked }
namespace Rows
def none {H : Type} : Left H := { results := [], args := [] }

/-- 'zzlaws_internal_access_b1.FnMatchesPatternSpec': WHATEVER THE INPUT: true; the input reads as it did. -/
def fnMatchesPatternSpecSpec : ChangeSpec := { name := "fnMatchesPatternSpec", fn := fun _ => fun
  | [d1, d2] => { results := [.lit (.bool true)], args := [d1, d2] }
  | _ => none }
def fnMatchesPatternSpecRow : OpenClaim := { program := "qxb6602559a", sum := "4fe15ed2bd6546e6129e0dcad19d9d0897be7664cd348f144b633cf647181632", func := "example.com/principal/principal/zzlaws_internal_access_b1.FnMatchesPatternSpec", spec := "fnMatchesPatternSpec", inPlace := ["internal/bytealg.IndexByteString", "internal/bytealg.IndexString"], named := ["internal/bytealg.MaxLen"], apart := false }
def FnMatchesPatternSpecSaid : Prop := fnMatchesPatternSpecRow.holds Try.pinned (OpenSpec.ofChange fnMatchesPatternSpecSpec)

/-- ITS FALSE NEIGHBOUR: 'it returns false'. Refute it at one input. -/
def fnMatchesPatternSpecWrong : ChangeSpec := { name := "fnMatchesPatternSpec", fn := fun _ => fun
  | [d1, d2] => { results := [.lit (.bool false)], args := [d1, d2] }
  | _ => none }
def FnMatchesPatternSpecWrongFalsely : Prop := fnMatchesPatternSpecRow.holds Try.pinned (OpenSpec.ofChange fnMatchesPatternSpecWrong)

/-- 'zzlaws_internal_access_b1.FnMatchesPatternStarWidens': WHATEVER THE INPUT: true; the input reads as it did. -/
def fnMatchesPatternStarWidensSpec : ChangeSpec := { name := "fnMatchesPatternStarWidens", fn := fun _ => fun
  | [d1, d2, d3] => { results := [.lit (.bool true)], args := [d1, d2, d3] }
  | _ => none }
def fnMatchesPatternStarWidensRow : OpenClaim := { program := "qxb6602559a", sum := "4fe15ed2bd6546e6129e0dcad19d9d0897be7664cd348f144b633cf647181632", func := "example.com/principal/principal/zzlaws_internal_access_b1.FnMatchesPatternStarWidens", spec := "fnMatchesPatternStarWidens", inPlace := ["internal/bytealg.IndexByteString", "internal/bytealg.IndexString"], named := ["internal/bytealg.MaxLen"], apart := false }
def FnMatchesPatternStarWidensSaid : Prop := fnMatchesPatternStarWidensRow.holds Try.pinned (OpenSpec.ofChange fnMatchesPatternStarWidensSpec)

/-- ITS FALSE NEIGHBOUR: 'it returns false'. Refute it at one input. -/
def fnMatchesPatternStarWidensWrong : ChangeSpec := { name := "fnMatchesPatternStarWidens", fn := fun _ => fun
  | [d1, d2, d3] => { results := [.lit (.bool false)], args := [d1, d2, d3] }
  | _ => none }
def FnMatchesPatternStarWidensWrongFalsely : Prop := fnMatchesPatternStarWidensRow.holds Try.pinned (OpenSpec.ofChange fnMatchesPatternStarWidensWrong)

/-- 'zzlaws_internal_access_b1.FnCoversOwnRequestExactly': WHATEVER THE INPUT: true; the input reads as it did. -/
def fnCoversOwnRequestExactlySpec : ChangeSpec := { name := "fnCoversOwnRequestExactly", fn := fun _ => fun
  | [d1, d2, d3, d4] => { results := [.lit (.bool true)], args := [d1, d2, d3, d4] }
  | _ => none }
def fnCoversOwnRequestExactlyRow : OpenClaim := { program := "qxb6602559a", sum := "4fe15ed2bd6546e6129e0dcad19d9d0897be7664cd348f144b633cf647181632", func := "example.com/principal/principal/zzlaws_internal_access_b1.FnCoversOwnRequestExactly", spec := "fnCoversOwnRequestExactly", apart := false }
def FnCoversOwnRequestExactlySaid : Prop := fnCoversOwnRequestExactlyRow.holds Try.pinned (OpenSpec.ofChange fnCoversOwnRequestExactlySpec)

/-- ITS FALSE NEIGHBOUR: 'it returns false'. Refute it at one input. -/
def fnCoversOwnRequestExactlyWrong : ChangeSpec := { name := "fnCoversOwnRequestExactly", fn := fun _ => fun
  | [d1, d2, d3, d4] => { results := [.lit (.bool false)], args := [d1, d2, d3, d4] }
  | _ => none }
def FnCoversOwnRequestExactlyWrongFalsely : Prop := fnCoversOwnRequestExactlyRow.holds Try.pinned (OpenSpec.ofChange fnCoversOwnRequestExactlyWrong)

/-- 'zzlaws_internal_access_b1.FnCoversDependsOnTagSet': WHATEVER THE INPUT: true; the input reads as it did. -/
def fnCoversDependsOnTagSetSpec : ChangeSpec := { name := "fnCoversDependsOnTagSet", fn := fun _ => fun
  | [d1, d2, d3, d4, d5, d6] => { results := [.lit (.bool true)], args := [d1, d2, d3, d4, d5, d6] }
  | _ => none }
def fnCoversDependsOnTagSetRow : OpenClaim := { program := "qxb6602559a", sum := "4fe15ed2bd6546e6129e0dcad19d9d0897be7664cd348f144b633cf647181632", func := "example.com/principal/principal/zzlaws_internal_access_b1.FnCoversDependsOnTagSet", spec := "fnCoversDependsOnTagSet", apart := false }
def FnCoversDependsOnTagSetSaid : Prop := fnCoversDependsOnTagSetRow.holds Try.pinned (OpenSpec.ofChange fnCoversDependsOnTagSetSpec)

/-- ITS FALSE NEIGHBOUR: 'it returns false'. Refute it at one input. -/
def fnCoversDependsOnTagSetWrong : ChangeSpec := { name := "fnCoversDependsOnTagSet", fn := fun _ => fun
  | [d1, d2, d3, d4, d5, d6] => { results := [.lit (.bool false)], args := [d1, d2, d3, d4, d5, d6] }
  | _ => none }
def FnCoversDependsOnTagSetWrongFalsely : Prop := fnCoversDependsOnTagSetRow.holds Try.pinned (OpenSpec.ofChange fnCoversDependsOnTagSetWrong)

/-- 'zzlaws_internal_access_b1.FnCoversNarrowerRequest': WHATEVER THE INPUT: true; the input reads as it did. -/
def fnCoversNarrowerRequestSpec : ChangeSpec := { name := "fnCoversNarrowerRequest", fn := fun _ => fun
  | [d1, d2, d3, d4] => { results := [.lit (.bool true)], args := [d1, d2, d3, d4] }
  | _ => none }
def fnCoversNarrowerRequestRow : OpenClaim := { program := "qxb6602559a", sum := "4fe15ed2bd6546e6129e0dcad19d9d0897be7664cd348f144b633cf647181632", func := "example.com/principal/principal/zzlaws_internal_access_b1.FnCoversNarrowerRequest", spec := "fnCoversNarrowerRequest", apart := false }
def FnCoversNarrowerRequestSaid : Prop := fnCoversNarrowerRequestRow.holds Try.pinned (OpenSpec.ofChange fnCoversNarrowerRequestSpec)

/-- ITS FALSE NEIGHBOUR: 'it returns false'. Refute it at one input. -/
def fnCoversNarrowerRequestWrong : ChangeSpec := { name := "fnCoversNarrowerRequest", fn := fun _ => fun
  | [d1, d2, d3, d4] => { results := [.lit (.bool false)], args := [d1, d2, d3, d4] }
  | _ => none }
def FnCoversNarrowerRequestWrongFalsely : Prop := fnCoversNarrowerRequestRow.holds Try.pinned (OpenSpec.ofChange fnCoversNarrowerRequestWrong)

/-- 'zzlaws_internal_access_b1.FnSelectsIsPreorder': WHATEVER THE INPUT: true; the input reads as it did. -/
def fnSelectsIsPreorderSpec : ChangeSpec := { name := "fnSelectsIsPreorder", fn := fun _ => fun
  | [d1, d2, d3, d4, d5, d6, d7, d8, d9, d10, d11, d12] => { results := [.lit (.bool true)], args := [d1, d2, d3, d4, d5, d6, d7, d8, d9, d10, d11, d12] }
  | _ => none }
def fnSelectsIsPreorderRow : OpenClaim := { program := "qxb6602559a", sum := "4fe15ed2bd6546e6129e0dcad19d9d0897be7664cd348f144b633cf647181632", func := "example.com/principal/principal/zzlaws_internal_access_b1.FnSelectsIsPreorder", spec := "fnSelectsIsPreorder", apart := false }
def FnSelectsIsPreorderSaid : Prop := fnSelectsIsPreorderRow.holds Try.pinned (OpenSpec.ofChange fnSelectsIsPreorderSpec)

/-- ITS FALSE NEIGHBOUR: 'it returns false'. Refute it at one input. -/
def fnSelectsIsPreorderWrong : ChangeSpec := { name := "fnSelectsIsPreorder", fn := fun _ => fun
  | [d1, d2, d3, d4, d5, d6, d7, d8, d9, d10, d11, d12] => { results := [.lit (.bool false)], args := [d1, d2, d3, d4, d5, d6, d7, d8, d9, d10, d11, d12] }
  | _ => none }
def FnSelectsIsPreorderWrongFalsely : Prop := fnSelectsIsPreorderRow.holds Try.pinned (OpenSpec.ofChange fnSelectsIsPreorderWrong)

end Rows
end Go.Proofs.Qxb6602559a
