/-
  No cell of these rows narrows 'for every input' (looked for: loops, veiled, ifaces, maps, wideKeys, modest, calm, conditions, laid).
  DERIVED. THE GIVEN ROWS OF THIS SEAT. 1 by the template 'for every input the law returns true; each argument reads behind the call as it read before'; 0 by the template 'total and deterministic' (their statements: Qxb6613157aTotals.lean).
  GIVEN WITH THE SEED: the statements are not yours to turn. If you find one false, say at which input.
  Laid BY PROGRAM, IN A SANDBOX (cutbox-rows.mjs): the forced cells as the released guide's own fill.sh prints them over the translation 2c39ca705060039b… (all of the seat's roots in one cut). By AI agents, Wed Nov 11 2026. No macro, syntax, notation, axiom, sorry.
-/
import Derived.Test.Qxb6613157aChecked
import GoSem.Claim
import GoSem.ClaimJoined
import GoSem.ClaimMapViews
import Derived.JoinedTies
import Derived.KernelRfl
namespace Go.Proofs.Qxb6613157a
/- THE CELL 'sum', in the pinned program and in every row, IS THE sha256 OF THE DUMP (.gsa) THAT Qxb6613157aProg.lean LOADS. Nothing in Lean hashes anything: it is a label: what it is worth is what the hold of that sum in a sandbox is worth. -/
noncomputable def Try.pinned : Pinned := { name := "qxb6613157a", sum := "2c39ca705060039bb1ee5cfcc3191db484a013b54d17669fbd4156d3363569cf", checked := Try.checked }
namespace Rows
def none {H : Type} : Left H := { results := [], args := [] }

/-- 'zzlaws_portal_b1.FnSessionChangeScript': WHATEVER THE INPUT: true; the input reads as it did. -/
def fnSessionChangeScriptSpec : ChangeSpec := { name := "fnSessionChangeScript", fn := fun _ => fun
  | [d1, d2, d3] => { results := [.lit (.bool true)], args := [d1, d2, d3] }
  | _ => none }
def fnSessionChangeScriptRow : OpenClaim := { program := "qxb6613157a", sum := "2c39ca705060039bb1ee5cfcc3191db484a013b54d17669fbd4156d3363569cf", func := "example.com/tollgate/tollgate/zzlaws_portal_b1.FnSessionChangeScript", spec := "fnSessionChangeScript", plainKeys := false, apart := false }
def FnSessionChangeScriptSaid : Prop := fnSessionChangeScriptRow.holds Try.pinned (OpenSpec.ofChange fnSessionChangeScriptSpec)

/-- ITS FALSE NEIGHBOUR: 'it returns false'. Refute it at one input. -/
def fnSessionChangeScriptWrong : ChangeSpec := { name := "fnSessionChangeScript", fn := fun _ => fun
  | [d1, d2, d3] => { results := [.lit (.bool false)], args := [d1, d2, d3] }
  | _ => none }
def FnSessionChangeScriptWrongFalsely : Prop := fnSessionChangeScriptRow.holds Try.pinned (OpenSpec.ofChange fnSessionChangeScriptWrong)

end Rows
end Go.Proofs.Qxb6613157a
