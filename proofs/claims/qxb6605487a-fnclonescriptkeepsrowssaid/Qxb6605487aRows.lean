/-
  No cell of these rows narrows 'for every input' (looked for: loops, veiled, ifaces, maps, wideKeys, modest, calm, conditions, laid).
  DERIVED. THE GIVEN ROWS OF THIS SEAT. 3 by the template 'for every input the law returns true; each argument reads behind the call as it read before'; 0 by the template 'total and deterministic' (their statements: Qxb6605487aTotals.lean).
  GIVEN WITH THE SEED: the statements are not yours to turn. If you find one false, say at which input.
  Laid BY PROGRAM, IN A SANDBOX (cutbox-rows.mjs): the forced cells as the released guide's own fill.sh prints them over the translation 23ced4cbcecc7e5e… (all of the seat's roots in one cut). By AI agents, Wed Nov 11 2026. No macro, syntax, notation, axiom, sorry.
-/
import Derived.Test.Qxb6605487aChecked
import GoSem.Claim
import GoSem.ClaimJoined
import GoSem.ClaimMapViews
import Derived.JoinedTies
import Derived.KernelRfl
namespace Go.Proofs.Qxb6605487a
/- THE CELL 'sum', in the pinned program and in every row, IS THE sha256 OF THE DUMP (.gsa) THAT Qxb6605487aProg.lean LOADS. Nothing in Lean hashes anything: it is a label: what it is worth is what the hold of that sum in a sandbox is worth. -/
noncomputable def Try.pinned : Pinned := { name := "qxb6605487a", sum := "23ced4cbcecc7e5ea45c88d4f10af4c5270680aa1121a1d4b64684d4097bf07f", checked := Try.checked }
namespace Rows
def none {H : Type} : Left H := { results := [], args := [] }

/-- 'zzlaws_root_b1.FnCloneExact': WHATEVER THE INPUT: true; the input reads as it did. -/
def fnCloneExactSpec : ChangeSpec := { name := "fnCloneExact", fn := fun _ => fun
  | [d1, d2, d3] => { results := [.lit (.bool true)], args := [d1, d2, d3] }
  | _ => none }
def fnCloneExactRow : OpenClaim := { program := "qxb6605487a", sum := "23ced4cbcecc7e5ea45c88d4f10af4c5270680aa1121a1d4b64684d4097bf07f", func := "example.com/palimpsest/palimpsest/zzlaws_root_b1.FnCloneExact", spec := "fnCloneExact", apart := false }
def FnCloneExactSaid : Prop := fnCloneExactRow.holds Try.pinned (OpenSpec.ofChange fnCloneExactSpec)

/-- ITS FALSE NEIGHBOUR: 'it returns false'. Refute it at one input. -/
def fnCloneExactWrong : ChangeSpec := { name := "fnCloneExact", fn := fun _ => fun
  | [d1, d2, d3] => { results := [.lit (.bool false)], args := [d1, d2, d3] }
  | _ => none }
def FnCloneExactWrongFalsely : Prop := fnCloneExactRow.holds Try.pinned (OpenSpec.ofChange fnCloneExactWrong)

/-- 'zzlaws_root_b1.FnCloneScriptKeepsRows': WHATEVER THE INPUT: true; the input reads as it did. -/
def fnCloneScriptKeepsRowsSpec : ChangeSpec := { name := "fnCloneScriptKeepsRows", fn := fun _ => fun
  | [d1, d2] => { results := [.lit (.bool true)], args := [d1, d2] }
  | _ => none }
def fnCloneScriptKeepsRowsRow : OpenClaim := { program := "qxb6605487a", sum := "23ced4cbcecc7e5ea45c88d4f10af4c5270680aa1121a1d4b64684d4097bf07f", func := "example.com/palimpsest/palimpsest/zzlaws_root_b1.FnCloneScriptKeepsRows", spec := "fnCloneScriptKeepsRows", apart := false }
def FnCloneScriptKeepsRowsSaid : Prop := fnCloneScriptKeepsRowsRow.holds Try.pinned (OpenSpec.ofChange fnCloneScriptKeepsRowsSpec)

/-- ITS FALSE NEIGHBOUR: 'it returns false'. Refute it at one input. -/
def fnCloneScriptKeepsRowsWrong : ChangeSpec := { name := "fnCloneScriptKeepsRows", fn := fun _ => fun
  | [d1, d2] => { results := [.lit (.bool false)], args := [d1, d2] }
  | _ => none }
def FnCloneScriptKeepsRowsWrongFalsely : Prop := fnCloneScriptKeepsRowsRow.holds Try.pinned (OpenSpec.ofChange fnCloneScriptKeepsRowsWrong)

/-- 'zzlaws_root_b1.FnSeenExact': WHATEVER THE INPUT: true; the input reads as it did. -/
def fnSeenExactSpec : ChangeSpec := { name := "fnSeenExact", fn := fun _ => fun
  | [d1, d2] => { results := [.lit (.bool true)], args := [d1, d2] }
  | _ => none }
def fnSeenExactRow : OpenClaim := { program := "qxb6605487a", sum := "23ced4cbcecc7e5ea45c88d4f10af4c5270680aa1121a1d4b64684d4097bf07f", func := "example.com/palimpsest/palimpsest/zzlaws_root_b1.FnSeenExact", spec := "fnSeenExact", apart := false }
def FnSeenExactSaid : Prop := fnSeenExactRow.holds Try.pinned (OpenSpec.ofChange fnSeenExactSpec)

/-- ITS FALSE NEIGHBOUR: 'it returns false'. Refute it at one input. -/
def fnSeenExactWrong : ChangeSpec := { name := "fnSeenExact", fn := fun _ => fun
  | [d1, d2] => { results := [.lit (.bool false)], args := [d1, d2] }
  | _ => none }
def FnSeenExactWrongFalsely : Prop := fnSeenExactRow.holds Try.pinned (OpenSpec.ofChange fnSeenExactWrong)

end Rows
end Go.Proofs.Qxb6605487a
