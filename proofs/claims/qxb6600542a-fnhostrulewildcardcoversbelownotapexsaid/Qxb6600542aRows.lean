/-
  No cell of these rows narrows 'for every input' (looked for: loops, veiled, ifaces, maps, wideKeys, modest, calm, conditions, laid).
  DERIVED. THE GIVEN ROWS OF THIS SEAT. 7 by the template 'for every input the law returns true; each argument reads behind the call as it read before'; 0 by the template 'total and deterministic' (their statements: Qxb6600542aTotals.lean).
  GIVEN WITH THE SEED: the statements are not yours to turn. If you find one false, say at which input.
  Laid BY PROGRAM, IN A SANDBOX (cutbox-rows.mjs): the forced cells as the released guide's own fill.sh prints them over the translation 5aca09d5245f39ca… (all of the seat's roots in one cut). By AI agents, Wed Nov 11 2026. No macro, syntax, notation, axiom, sorry.
-/
import Derived.Test.Qxb6600542aChecked
import GoSem.Claim
import GoSem.ClaimJoined
import GoSem.ClaimMapViews
import Derived.JoinedTies
import Derived.KernelRfl
namespace Go.Proofs.Qxb6600542a
/- THE CELL 'sum', in the pinned program and in every row, IS THE sha256 OF THE DUMP (.gsa) THAT Qxb6600542aProg.lean LOADS. Nothing in Lean hashes anything: it is a label: what it is worth is what the hold of that sum in a sandbox is worth. -/
noncomputable def Try.pinned : Pinned := { name := "qxb6600542a", sum := "5aca09d5245f39ca4ac393d1842a4bc9bdad5f01438cc0628a70779d77f32330", checked := Try.checked }
namespace Rows
def none {H : Type} : Left H := { results := [], args := [] }

/-- 'zzlaws_policy_b1.FnLiteralHeadClosedForm': WHATEVER THE INPUT: true; the input reads as it did. -/
def fnLiteralHeadClosedFormSpec : ChangeSpec := { name := "fnLiteralHeadClosedForm", fn := fun _ => fun
  | [d] => { results := [.lit (.bool true)], args := [d] }
  | _ => none }
def fnLiteralHeadClosedFormRow : OpenClaim := { program := "qxb6600542a", sum := "5aca09d5245f39ca4ac393d1842a4bc9bdad5f01438cc0628a70779d77f32330", func := "example.com/gate-before-exec/gate-before-exec/zzlaws_policy_b1.FnLiteralHeadClosedForm", spec := "fnLiteralHeadClosedForm", inPlace := ["internal/bytealg.IndexByteString", "internal/bytealg.IndexString"], named := ["internal/bytealg.MaxLen"], apart := false }
def FnLiteralHeadClosedFormSaid : Prop := fnLiteralHeadClosedFormRow.holds Try.pinned (OpenSpec.ofChange fnLiteralHeadClosedFormSpec)

/-- ITS FALSE NEIGHBOUR: 'it returns false'. Refute it at one input. -/
def fnLiteralHeadClosedFormWrong : ChangeSpec := { name := "fnLiteralHeadClosedForm", fn := fun _ => fun
  | [d] => { results := [.lit (.bool false)], args := [d] }
  | _ => none }
def FnLiteralHeadClosedFormWrongFalsely : Prop := fnLiteralHeadClosedFormRow.holds Try.pinned (OpenSpec.ofChange fnLiteralHeadClosedFormWrong)

/-- 'zzlaws_policy_b1.FnLiteralHeadSplitsAndSettles': WHATEVER THE INPUT: true; the input reads as it did. -/
def fnLiteralHeadSplitsAndSettlesSpec : ChangeSpec := { name := "fnLiteralHeadSplitsAndSettles", fn := fun _ => fun
  | [d] => { results := [.lit (.bool true)], args := [d] }
  | _ => none }
def fnLiteralHeadSplitsAndSettlesRow : OpenClaim := { program := "qxb6600542a", sum := "5aca09d5245f39ca4ac393d1842a4bc9bdad5f01438cc0628a70779d77f32330", func := "example.com/gate-before-exec/gate-before-exec/zzlaws_policy_b1.FnLiteralHeadSplitsAndSettles", spec := "fnLiteralHeadSplitsAndSettles", inPlace := ["internal/bytealg.IndexByteString", "internal/bytealg.IndexString"], named := ["internal/bytealg.MaxLen"], apart := false }
def FnLiteralHeadSplitsAndSettlesSaid : Prop := fnLiteralHeadSplitsAndSettlesRow.holds Try.pinned (OpenSpec.ofChange fnLiteralHeadSplitsAndSettlesSpec)

/-- ITS FALSE NEIGHBOUR: 'it returns false'. Refute it at one input. -/
def fnLiteralHeadSplitsAndSettlesWrong : ChangeSpec := { name := "fnLiteralHeadSplitsAndSettles", fn := fun _ => fun
  | [d] => { results := [.lit (.bool false)], args := [d] }
  | _ => none }
def FnLiteralHeadSplitsAndSettlesWrongFalsely : Prop := fnLiteralHeadSplitsAndSettlesRow.holds Try.pinned (OpenSpec.ofChange fnLiteralHeadSplitsAndSettlesWrong)

/-- 'zzlaws_policy_b1.FnLiteralHeadAppendAfterWildcard': WHATEVER THE INPUT: true; the input reads as it did. -/
def fnLiteralHeadAppendAfterWildcardSpec : ChangeSpec := { name := "fnLiteralHeadAppendAfterWildcard", fn := fun _ => fun
  | [d1, d2] => { results := [.lit (.bool true)], args := [d1, d2] }
  | _ => none }
def fnLiteralHeadAppendAfterWildcardRow : OpenClaim := { program := "qxb6600542a", sum := "5aca09d5245f39ca4ac393d1842a4bc9bdad5f01438cc0628a70779d77f32330", func := "example.com/gate-before-exec/gate-before-exec/zzlaws_policy_b1.FnLiteralHeadAppendAfterWildcard", spec := "fnLiteralHeadAppendAfterWildcard", inPlace := ["internal/bytealg.IndexByteString", "internal/bytealg.IndexString"], named := ["internal/bytealg.MaxLen"], apart := false }
def FnLiteralHeadAppendAfterWildcardSaid : Prop := fnLiteralHeadAppendAfterWildcardRow.holds Try.pinned (OpenSpec.ofChange fnLiteralHeadAppendAfterWildcardSpec)

/-- ITS FALSE NEIGHBOUR: 'it returns false'. Refute it at one input. -/
def fnLiteralHeadAppendAfterWildcardWrong : ChangeSpec := { name := "fnLiteralHeadAppendAfterWildcard", fn := fun _ => fun
  | [d1, d2] => { results := [.lit (.bool false)], args := [d1, d2] }
  | _ => none }
def FnLiteralHeadAppendAfterWildcardWrongFalsely : Prop := fnLiteralHeadAppendAfterWildcardRow.holds Try.pinned (OpenSpec.ofChange fnLiteralHeadAppendAfterWildcardWrong)

/-- 'zzlaws_policy_b1.FnContextDepthsCoversExactly': WHATEVER THE INPUT: true; the input reads as it did. -/
def fnContextDepthsCoversExactlySpec : ChangeSpec := { name := "fnContextDepthsCoversExactly", fn := fun _ => fun
  | [d1, d2] => { results := [.lit (.bool true)], args := [d1, d2] }
  | _ => none }
def fnContextDepthsCoversExactlyRow : OpenClaim := { program := "qxb6600542a", sum := "5aca09d5245f39ca4ac393d1842a4bc9bdad5f01438cc0628a70779d77f32330", func := "example.com/gate-before-exec/gate-before-exec/zzlaws_policy_b1.FnContextDepthsCoversExactly", spec := "fnContextDepthsCoversExactly", apart := false }
def FnContextDepthsCoversExactlySaid : Prop := fnContextDepthsCoversExactlyRow.holds Try.pinned (OpenSpec.ofChange fnContextDepthsCoversExactlySpec)

/-- ITS FALSE NEIGHBOUR: 'it returns false'. Refute it at one input. -/
def fnContextDepthsCoversExactlyWrong : ChangeSpec := { name := "fnContextDepthsCoversExactly", fn := fun _ => fun
  | [d1, d2] => { results := [.lit (.bool false)], args := [d1, d2] }
  | _ => none }
def FnContextDepthsCoversExactlyWrongFalsely : Prop := fnContextDepthsCoversExactlyRow.holds Try.pinned (OpenSpec.ofChange fnContextDepthsCoversExactlyWrong)

/-- 'zzlaws_policy_b1.FnContextDepthsOneRangeOrderFree': WHATEVER THE INPUT: true; the input reads as it did. -/
def fnContextDepthsOneRangeOrderFreeSpec : ChangeSpec := { name := "fnContextDepthsOneRangeOrderFree", fn := fun _ => fun
  | [d] => { results := [.lit (.bool true)], args := [d] }
  | _ => none }
def fnContextDepthsOneRangeOrderFreeRow : OpenClaim := { program := "qxb6600542a", sum := "5aca09d5245f39ca4ac393d1842a4bc9bdad5f01438cc0628a70779d77f32330", func := "example.com/gate-before-exec/gate-before-exec/zzlaws_policy_b1.FnContextDepthsOneRangeOrderFree", spec := "fnContextDepthsOneRangeOrderFree", apart := false }
def FnContextDepthsOneRangeOrderFreeSaid : Prop := fnContextDepthsOneRangeOrderFreeRow.holds Try.pinned (OpenSpec.ofChange fnContextDepthsOneRangeOrderFreeSpec)

/-- ITS FALSE NEIGHBOUR: 'it returns false'. Refute it at one input. -/
def fnContextDepthsOneRangeOrderFreeWrong : ChangeSpec := { name := "fnContextDepthsOneRangeOrderFree", fn := fun _ => fun
  | [d] => { results := [.lit (.bool false)], args := [d] }
  | _ => none }
def FnContextDepthsOneRangeOrderFreeWrongFalsely : Prop := fnContextDepthsOneRangeOrderFreeRow.holds Try.pinned (OpenSpec.ofChange fnContextDepthsOneRangeOrderFreeWrong)

/-- 'zzlaws_policy_b1.FnHostRuleWildcardCoversBelowNotApex': WHATEVER THE INPUT: true; the input reads as it did. -/
def fnHostRuleWildcardCoversBelowNotApexSpec : ChangeSpec := { name := "fnHostRuleWildcardCoversBelowNotApex", fn := fun _ => fun
  | [d1, d2, d3, d4] => { results := [.lit (.bool true)], args := [d1, d2, d3, d4] }
  | _ => none }
def fnHostRuleWildcardCoversBelowNotApexRow : OpenClaim := { program := "qxb6600542a", sum := "5aca09d5245f39ca4ac393d1842a4bc9bdad5f01438cc0628a70779d77f32330", func := "example.com/gate-before-exec/gate-before-exec/zzlaws_policy_b1.FnHostRuleWildcardCoversBelowNotApex", spec := "fnHostRuleWildcardCoversBelowNotApex", unfollowed := true, recurses := true, apart := false }
def FnHostRuleWildcardCoversBelowNotApexSaid : Prop := fnHostRuleWildcardCoversBelowNotApexRow.holds Try.pinned (OpenSpec.ofChange fnHostRuleWildcardCoversBelowNotApexSpec)

/-- ITS FALSE NEIGHBOUR: 'it returns false'. Refute it at one input. -/
def fnHostRuleWildcardCoversBelowNotApexWrong : ChangeSpec := { name := "fnHostRuleWildcardCoversBelowNotApex", fn := fun _ => fun
  | [d1, d2, d3, d4] => { results := [.lit (.bool false)], args := [d1, d2, d3, d4] }
  | _ => none }
def FnHostRuleWildcardCoversBelowNotApexWrongFalsely : Prop := fnHostRuleWildcardCoversBelowNotApexRow.holds Try.pinned (OpenSpec.ofChange fnHostRuleWildcardCoversBelowNotApexWrong)

/-- 'zzlaws_policy_b1.FnHostRuleWiderNeverNarrower': WHATEVER THE INPUT: true; the input reads as it did. -/
def fnHostRuleWiderNeverNarrowerSpec : ChangeSpec := { name := "fnHostRuleWiderNeverNarrower", fn := fun _ => fun
  | [d1, d2, d3, d4, d5, d6] => { results := [.lit (.bool true)], args := [d1, d2, d3, d4, d5, d6] }
  | _ => none }
def fnHostRuleWiderNeverNarrowerRow : OpenClaim := { program := "qxb6600542a", sum := "5aca09d5245f39ca4ac393d1842a4bc9bdad5f01438cc0628a70779d77f32330", func := "example.com/gate-before-exec/gate-before-exec/zzlaws_policy_b1.FnHostRuleWiderNeverNarrower", spec := "fnHostRuleWiderNeverNarrower", unfollowed := true, recurses := true, apart := false }
def FnHostRuleWiderNeverNarrowerSaid : Prop := fnHostRuleWiderNeverNarrowerRow.holds Try.pinned (OpenSpec.ofChange fnHostRuleWiderNeverNarrowerSpec)

/-- ITS FALSE NEIGHBOUR: 'it returns false'. Refute it at one input. -/
def fnHostRuleWiderNeverNarrowerWrong : ChangeSpec := { name := "fnHostRuleWiderNeverNarrower", fn := fun _ => fun
  | [d1, d2, d3, d4, d5, d6] => { results := [.lit (.bool false)], args := [d1, d2, d3, d4, d5, d6] }
  | _ => none }
def FnHostRuleWiderNeverNarrowerWrongFalsely : Prop := fnHostRuleWiderNeverNarrowerRow.holds Try.pinned (OpenSpec.ofChange fnHostRuleWiderNeverNarrowerWrong)

end Rows
end Go.Proofs.Qxb6600542a
