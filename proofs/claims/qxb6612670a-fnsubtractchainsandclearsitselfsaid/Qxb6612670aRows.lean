/-
  No cell of these rows narrows 'for every input' (looked for: loops, veiled, ifaces, maps, wideKeys, modest, calm, conditions, laid).
  DERIVED. THE GIVEN ROWS OF THIS SEAT. 1 by the template 'for every input the law returns true; each argument reads behind the call as it read before'; 0 by the template 'total and deterministic' (their statements: Qxb6612670aTotals.lean).
  GIVEN WITH THE SEED: the statements are not yours to turn. If you find one false, say at which input.
  Laid BY PROGRAM, IN A SANDBOX (cutbox-rows.mjs): the forced cells as the released guide's own fill.sh prints them over the translation 380d58d86584964c… (all of the seat's roots in one cut). By AI agents, Wed Nov 11 2026. No macro, syntax, notation, axiom, sorry.
-/
import Derived.Test.Qxb6612670aChecked
import GoSem.Claim
import GoSem.ClaimJoined
import GoSem.ClaimMapViews
import Derived.JoinedTies
import Derived.KernelRfl
namespace Go.Proofs.Qxb6612670a
/- THE CELL 'sum', in the pinned program and in every row, IS THE sha256 OF THE DUMP (.gsa) THAT Qxb6612670aProg.lean LOADS. Nothing in Lean hashes anything: it is a label: what it is worth is what the hold of that sum in a sandbox is worth. -/
noncomputable def Try.pinned : Pinned := { name := "qxb6612670a", sum := "380d58d86584964c08c7fc0975bcc11529774cbb485ce8a7ca327021825dff20", checked := Try.checked }
namespace Rows
def none {H : Type} : Left H := { results := [], args := [] }

/-- 'zzlaws_root_b1.FnSubtractChainsAndClearsItself': WHATEVER THE INPUT: true; the input reads as it did. -/
def fnSubtractChainsAndClearsItselfSpec : ChangeSpec := { name := "fnSubtractChainsAndClearsItself", fn := fun _ => fun
  | [d1, d2, d3, d4, d5, d6] => { results := [.lit (.bool true)], args := [d1, d2, d3, d4, d5, d6] }
  | _ => none }
def fnSubtractChainsAndClearsItselfRow : OpenClaim := { program := "qxb6612670a", sum := "380d58d86584964c08c7fc0975bcc11529774cbb485ce8a7ca327021825dff20", func := "example.com/sluice/sluice/zzlaws_root_b1.FnSubtractChainsAndClearsItself", spec := "fnSubtractChainsAndClearsItself", apart := false }
def FnSubtractChainsAndClearsItselfSaid : Prop := fnSubtractChainsAndClearsItselfRow.holds Try.pinned (OpenSpec.ofChange fnSubtractChainsAndClearsItselfSpec)

/-- ITS FALSE NEIGHBOUR: 'it returns false'. Refute it at one input. -/
def fnSubtractChainsAndClearsItselfWrong : ChangeSpec := { name := "fnSubtractChainsAndClearsItself", fn := fun _ => fun
  | [d1, d2, d3, d4, d5, d6] => { results := [.lit (.bool false)], args := [d1, d2, d3, d4, d5, d6] }
  | _ => none }
def FnSubtractChainsAndClearsItselfWrongFalsely : Prop := fnSubtractChainsAndClearsItselfRow.holds Try.pinned (OpenSpec.ofChange fnSubtractChainsAndClearsItselfWrong)

end Rows
end Go.Proofs.Qxb6612670a
