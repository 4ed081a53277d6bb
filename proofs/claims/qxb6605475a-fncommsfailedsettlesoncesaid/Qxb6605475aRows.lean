/-
  No cell of these rows narrows 'for every input' (looked for: loops, veiled, ifaces, maps, wideKeys, modest, calm, conditions, laid).
  DERIVED. THE GIVEN ROWS OF THIS SEAT. 3 by the template 'for every input the law returns true; each argument reads behind the call as it read before'; 0 by the template 'total and deterministic' (their statements: Qxb6605475aTotals.lean).
  GIVEN WITH THE SEED: the statements are not yours to turn. If you find one false, say at which input.
  Laid BY PROGRAM, IN A SANDBOX (cutbox-rows.mjs): the forced cells as the released guide's own fill.sh prints them over the translation 9e1da94ebc15b59f… (all of the seat's roots in one cut). By AI agents, Wed Nov 11 2026. No macro, syntax, notation, axiom, sorry.
-/
import Derived.Test.Qxb6605475aChecked
import GoSem.Claim
import GoSem.ClaimJoined
import GoSem.ClaimMapViews
import Derived.JoinedTies
import Derived.KernelRfl
namespace Go.Proofs.Qxb6605475a
/- THE CELL 'sum', in the pinned program and in every row, IS THE sha256 OF THE DUMP (.gsa) THAT Qxb6605475aProg.lean LOADS. Nothing in Lean hashes anything: it is a label: what it is worth is what the hold of that sum in a sandbox is worth. -/
noncomputable def Try.pinned : Pinned := { name := "qxb6605475a", sum := "9e1da94ebc15b59fe422f0494c04de7c4de64a4f04cf2a3d4a956c0e647183b0", checked := Try.checked }
namespace Rows
def none {H : Type} : Left H := { results := [], args := [] }

/-- 'zzlaws_internal_failover_b1.FnCommsFailedSettlesOnce': WHATEVER THE INPUT: true; the input reads as it did. -/
def fnCommsFailedSettlesOnceSpec : ChangeSpec := { name := "fnCommsFailedSettlesOnce", fn := fun _ => fun
  | [d] => { results := [.lit (.bool true)], args := [d] }
  | _ => none }
def fnCommsFailedSettlesOnceRow : OpenClaim := { program := "qxb6605475a", sum := "9e1da94ebc15b59fe422f0494c04de7c4de64a4f04cf2a3d4a956c0e647183b0", func := "example.com/twinlease/twinlease/zzlaws_internal_failover_b1.FnCommsFailedSettlesOnce", spec := "fnCommsFailedSettlesOnce", apart := false }
def FnCommsFailedSettlesOnceSaid : Prop := fnCommsFailedSettlesOnceRow.holds Try.pinned (OpenSpec.ofChange fnCommsFailedSettlesOnceSpec)

/-- ITS FALSE NEIGHBOUR: 'it returns false'. Refute it at one input. -/
def fnCommsFailedSettlesOnceWrong : ChangeSpec := { name := "fnCommsFailedSettlesOnce", fn := fun _ => fun
  | [d] => { results := [.lit (.bool false)], args := [d] }
  | _ => none }
def FnCommsFailedSettlesOnceWrongFalsely : Prop := fnCommsFailedSettlesOnceRow.holds Try.pinned (OpenSpec.ofChange fnCommsFailedSettlesOnceWrong)

/-- 'zzlaws_internal_failover_b1.FnOptionsGetFirstMatch': WHATEVER THE INPUT: true; the input reads as it did. -/
def fnOptionsGetFirstMatchSpec : ChangeSpec := { name := "fnOptionsGetFirstMatch", fn := fun _ => fun
  | [d1, d2] => { results := [.lit (.bool true)], args := [d1, d2] }
  | _ => none }
def fnOptionsGetFirstMatchRow : OpenClaim := { program := "qxb6605475a", sum := "9e1da94ebc15b59fe422f0494c04de7c4de64a4f04cf2a3d4a956c0e647183b0", func := "example.com/twinlease/twinlease/zzlaws_internal_failover_b1.FnOptionsGetFirstMatch", spec := "fnOptionsGetFirstMatch", apart := false }
def FnOptionsGetFirstMatchSaid : Prop := fnOptionsGetFirstMatchRow.holds Try.pinned (OpenSpec.ofChange fnOptionsGetFirstMatchSpec)

/-- ITS FALSE NEIGHBOUR: 'it returns false'. Refute it at one input. -/
def fnOptionsGetFirstMatchWrong : ChangeSpec := { name := "fnOptionsGetFirstMatch", fn := fun _ => fun
  | [d1, d2] => { results := [.lit (.bool false)], args := [d1, d2] }
  | _ => none }
def FnOptionsGetFirstMatchWrongFalsely : Prop := fnOptionsGetFirstMatchRow.holds Try.pinned (OpenSpec.ofChange fnOptionsGetFirstMatchWrong)

/-- 'zzlaws_internal_failover_b1.FnOptionsGetFrontWins': WHATEVER THE INPUT: true; the input reads as it did. -/
def fnOptionsGetFrontWinsSpec : ChangeSpec := { name := "fnOptionsGetFrontWins", fn := fun _ => fun
  | [d1, d2, d3, d4] => { results := [.lit (.bool true)], args := [d1, d2, d3, d4] }
  | _ => none }
def fnOptionsGetFrontWinsRow : OpenClaim := { program := "qxb6605475a", sum := "9e1da94ebc15b59fe422f0494c04de7c4de64a4f04cf2a3d4a956c0e647183b0", func := "example.com/twinlease/twinlease/zzlaws_internal_failover_b1.FnOptionsGetFrontWins", spec := "fnOptionsGetFrontWins", apart := false }
def FnOptionsGetFrontWinsSaid : Prop := fnOptionsGetFrontWinsRow.holds Try.pinned (OpenSpec.ofChange fnOptionsGetFrontWinsSpec)

/-- ITS FALSE NEIGHBOUR: 'it returns false'. Refute it at one input. -/
def fnOptionsGetFrontWinsWrong : ChangeSpec := { name := "fnOptionsGetFrontWins", fn := fun _ => fun
  | [d1, d2, d3, d4] => { results := [.lit (.bool false)], args := [d1, d2, d3, d4] }
  | _ => none }
def FnOptionsGetFrontWinsWrongFalsely : Prop := fnOptionsGetFrontWinsRow.holds Try.pinned (OpenSpec.ofChange fnOptionsGetFrontWinsWrong)

end Rows
end Go.Proofs.Qxb6605475a
