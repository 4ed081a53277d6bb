/-
  No cell of these rows narrows 'for every input' (looked for: loops, veiled, ifaces, maps, wideKeys, modest, calm, conditions, laid).
  DERIVED. THE GIVEN ROWS OF THIS SEAT. 4 by the template 'for every input the law returns true; each argument reads behind the call as it read before'; 0 by the template 'total and deterministic' (their statements: Qxb6605323aTotals.lean).
  GIVEN WITH THE SEED: the statements are not yours to turn. If you find one false, say at which input.
  Laid BY PROGRAM, IN A SANDBOX (cutbox-rows.mjs): the forced cells as the released guide's own fill.sh prints them over the translation 5ffe50963664a043… (all of the seat's roots in one cut). By AI agents, Wed Nov 11 2026. No macro, syntax, notation, axiom, sorry.
-/
import Derived.Test.Qxb6605323aChecked
import GoSem.Claim
import GoSem.ClaimJoined
import GoSem.ClaimMapViews
import Derived.JoinedTies
import Derived.KernelRfl
namespace Go.Proofs.Qxb6605323a
/- THE CELL 'sum', in the pinned program and in every row, IS THE sha256 OF THE DUMP (.gsa) THAT Qxb6605323aProg.lean LOADS. Nothing in Lean hashes anything: it is a label: what it is worth is what the hold of that sum in a sandbox is worth. -/
noncomputable def Try.pinned : Pinned := { name := "qxb6605323a", sum := "5ffe50963664a0430454f23082bfa90fc0c8d442b4e8cb460f972ded91a2a0cb", checked := Try.checked }
namespace Rows
def none {H : Type} : Left H := { results := [], args := [] }

/-- 'zzlaws_internal_measure_b1.FnComponentsMatchUnionFind': WHATEVER THE INPUT: true; the input reads as it did. -/
def fnComponentsMatchUnionFindSpec : ChangeSpec := { name := "fnComponentsMatchUnionFind", fn := fun _ => fun
  | [d1, d2, d3] => { results := [.lit (.bool true)], args := [d1, d2, d3] }
  | _ => none }
def fnComponentsMatchUnionFindRow : OpenClaim := { program := "qxb6605323a", sum := "5ffe50963664a0430454f23082bfa90fc0c8d442b4e8cb460f972ded91a2a0cb", func := "example.com/holdfast/holdfast/zzlaws_internal_measure_b1.FnComponentsMatchUnionFind", spec := "fnComponentsMatchUnionFind", recurses := true, apart := false }
def FnComponentsMatchUnionFindSaid : Prop := fnComponentsMatchUnionFindRow.holds Try.pinned (OpenSpec.ofChange fnComponentsMatchUnionFindSpec)

/-- ITS FALSE NEIGHBOUR: 'it returns false'. Refute it at one input. -/
def fnComponentsMatchUnionFindWrong : ChangeSpec := { name := "fnComponentsMatchUnionFind", fn := fun _ => fun
  | [d1, d2, d3] => { results := [.lit (.bool false)], args := [d1, d2, d3] }
  | _ => none }
def FnComponentsMatchUnionFindWrongFalsely : Prop := fnComponentsMatchUnionFindRow.holds Try.pinned (OpenSpec.ofChange fnComponentsMatchUnionFindWrong)

/-- 'zzlaws_internal_measure_b1.FnComponentsIgnorePeerOrder': WHATEVER THE INPUT: true; the input reads as it did. -/
def fnComponentsIgnorePeerOrderSpec : ChangeSpec := { name := "fnComponentsIgnorePeerOrder", fn := fun _ => fun
  | [d1, d2, d3, d4] => { results := [.lit (.bool true)], args := [d1, d2, d3, d4] }
  | _ => none }
def fnComponentsIgnorePeerOrderRow : OpenClaim := { program := "qxb6605323a", sum := "5ffe50963664a0430454f23082bfa90fc0c8d442b4e8cb460f972ded91a2a0cb", func := "example.com/holdfast/holdfast/zzlaws_internal_measure_b1.FnComponentsIgnorePeerOrder", spec := "fnComponentsIgnorePeerOrder", recurses := true, apart := false }
def FnComponentsIgnorePeerOrderSaid : Prop := fnComponentsIgnorePeerOrderRow.holds Try.pinned (OpenSpec.ofChange fnComponentsIgnorePeerOrderSpec)

/-- ITS FALSE NEIGHBOUR: 'it returns false'. Refute it at one input. -/
def fnComponentsIgnorePeerOrderWrong : ChangeSpec := { name := "fnComponentsIgnorePeerOrder", fn := fun _ => fun
  | [d1, d2, d3, d4] => { results := [.lit (.bool false)], args := [d1, d2, d3, d4] }
  | _ => none }
def FnComponentsIgnorePeerOrderWrongFalsely : Prop := fnComponentsIgnorePeerOrderRow.holds Try.pinned (OpenSpec.ofChange fnComponentsIgnorePeerOrderWrong)

/-- 'zzlaws_internal_measure_b1.FnEfficiencyBetweenOneHopShareAndHalfFar': WHATEVER THE INPUT: true; the input reads as it did. -/
def fnEfficiencyBetweenOneHopShareAndHalfFarSpec : ChangeSpec := { name := "fnEfficiencyBetweenOneHopShareAndHalfFar", fn := fun _ => fun
  | [d1, d2, d3, d4, d5, d6, d7, d8, d9, d10] => { results := [.lit (.bool true)], args := [d1, d2, d3, d4, d5, d6, d7, d8, d9, d10] }
  | _ => none }
def fnEfficiencyBetweenOneHopShareAndHalfFarRow : OpenClaim := { program := "qxb6605323a", sum := "5ffe50963664a0430454f23082bfa90fc0c8d442b4e8cb460f972ded91a2a0cb", func := "example.com/holdfast/holdfast/zzlaws_internal_measure_b1.FnEfficiencyBetweenOneHopShareAndHalfFar", spec := "fnEfficiencyBetweenOneHopShareAndHalfFar", apart := false }
def FnEfficiencyBetweenOneHopShareAndHalfFarSaid : Prop := fnEfficiencyBetweenOneHopShareAndHalfFarRow.holds Try.pinned (OpenSpec.ofChange fnEfficiencyBetweenOneHopShareAndHalfFarSpec)

/-- ITS FALSE NEIGHBOUR: 'it returns false'. Refute it at one input. -/
def fnEfficiencyBetweenOneHopShareAndHalfFarWrong : ChangeSpec := { name := "fnEfficiencyBetweenOneHopShareAndHalfFar", fn := fun _ => fun
  | [d1, d2, d3, d4, d5, d6, d7, d8, d9, d10] => { results := [.lit (.bool false)], args := [d1, d2, d3, d4, d5, d6, d7, d8, d9, d10] }
  | _ => none }
def FnEfficiencyBetweenOneHopShareAndHalfFarWrongFalsely : Prop := fnEfficiencyBetweenOneHopShareAndHalfFarRow.holds Try.pinned (OpenSpec.ofChange fnEfficiencyBetweenOneHopShareAndHalfFarWrong)

/-- 'zzlaws_internal_measure_b1.FnEfficiencyScaleFree': WHATEVER THE INPUT: true; the input reads as it did. -/
def fnEfficiencyScaleFreeSpec : ChangeSpec := { name := "fnEfficiencyScaleFree", fn := fun _ => fun
  | [d1, d2, d3, d4, d5, d6, d7, d8, d9, d10] => { results := [.lit (.bool true)], args := [d1, d2, d3, d4, d5, d6, d7, d8, d9, d10] }
  | _ => none }
def fnEfficiencyScaleFreeRow : OpenClaim := { program := "qxb6605323a", sum := "5ffe50963664a0430454f23082bfa90fc0c8d442b4e8cb460f972ded91a2a0cb", func := "example.com/holdfast/holdfast/zzlaws_internal_measure_b1.FnEfficiencyScaleFree", spec := "fnEfficiencyScaleFree", apart := false }
def FnEfficiencyScaleFreeSaid : Prop := fnEfficiencyScaleFreeRow.holds Try.pinned (OpenSpec.ofChange fnEfficiencyScaleFreeSpec)

/-- ITS FALSE NEIGHBOUR: 'it returns false'. Refute it at one input. -/
def fnEfficiencyScaleFreeWrong : ChangeSpec := { name := "fnEfficiencyScaleFree", fn := fun _ => fun
  | [d1, d2, d3, d4, d5, d6, d7, d8, d9, d10] => { results := [.lit (.bool false)], args := [d1, d2, d3, d4, d5, d6, d7, d8, d9, d10] }
  | _ => none }
def FnEfficiencyScaleFreeWrongFalsely : Prop := fnEfficiencyScaleFreeRow.holds Try.pinned (OpenSpec.ofChange fnEfficiencyScaleFreeWrong)

end Rows
end Go.Proofs.Qxb6605323a
