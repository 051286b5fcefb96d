/-
  No cell of these rows narrows 'for every input' (looked for: loops, veiled, ifaces, maps, wideKeys, modest, calm, conditions, laid).
  DERIVED. THE GIVEN ROWS OF THIS SEAT. 2 by the template 'for every input the law returns true; each argument reads behind the call as it read before'; 0 by the template 'total and deterministic' (their statements: Qxb6613891aTotals.lean).
  GIVEN WITH THE SEED: the statements are not yours to turn. If you find one false, say at which input.
  Laid BY PROGRAM, IN A SANDBOX (cutbox-rows.mjs): the forced cells as the released guide's own fill.sh prints them over the translation a974cf859cb91519… (all of the seat's roots in one cut). By AI agents, Wed Nov 11 2026. No macro, syntax, notation, axiom, sorry.
-/
import Derived.Test.Qxb6613891aChecked
import GoSem.Claim
import GoSem.ClaimJoined
import GoSem.ClaimMapViews
import Derived.JoinedTies
import Derived.KernelRfl
namespace Go.Proofs.Qxb6613891a
/- THE CELL 'sum', in the pinned program and in every row, IS THE sha256 OF THE DUMP (.gsa) THAT Qxb6613891aProg.lean LOADS. Nothing in Lean hashes anything: it is a label: what it is worth is what the hold of that sum in a sandbox is worth. -/
noncomputable def Try.pinned : Pinned := { name := "qxb6613891a", sum := "a974cf859cb915192b37a9cbe14ba8a464287b40d5187bbcfea366c8b9fbf1ca", checked := Try.checked }
namespace Rows
def none {H : Type} : Left H := { results := [], args := [] }

/-- 'zzlaws_root_b1.FnKeyBatchesSplitAtBatchEdge': WHATEVER THE INPUT: true; the input reads as it did. -/
def fnKeyBatchesSplitAtBatchEdgeSpec : ChangeSpec := { name := "fnKeyBatchesSplitAtBatchEdge", fn := fun _ => fun
  | [d1, d2, d3] => { results := [.lit (.bool true)], args := [d1, d2, d3] }
  | _ => none }
def fnKeyBatchesSplitAtBatchEdgeRow : OpenClaim := { program := "qxb6613891a", sum := "a974cf859cb915192b37a9cbe14ba8a464287b40d5187bbcfea366c8b9fbf1ca", func := "example.com/brisk-orm/brisk-orm/zzlaws_root_b1.FnKeyBatchesSplitAtBatchEdge", spec := "fnKeyBatchesSplitAtBatchEdge", apart := false }
def FnKeyBatchesSplitAtBatchEdgeSaid : Prop := fnKeyBatchesSplitAtBatchEdgeRow.holds Try.pinned (OpenSpec.ofChange fnKeyBatchesSplitAtBatchEdgeSpec)

/-- ITS FALSE NEIGHBOUR: 'it returns false'. Refute it at one input. -/
def fnKeyBatchesSplitAtBatchEdgeWrong : ChangeSpec := { name := "fnKeyBatchesSplitAtBatchEdge", fn := fun _ => fun
  | [d1, d2, d3] => { results := [.lit (.bool false)], args := [d1, d2, d3] }
  | _ => none }
def FnKeyBatchesSplitAtBatchEdgeWrongFalsely : Prop := fnKeyBatchesSplitAtBatchEdgeRow.holds Try.pinned (OpenSpec.ofChange fnKeyBatchesSplitAtBatchEdgeWrong)

/-- 'zzlaws_root_b1.FnKeyBatchesCoarserJoinsFiner': WHATEVER THE INPUT: true; the input reads as it did. -/
def fnKeyBatchesCoarserJoinsFinerSpec : ChangeSpec := { name := "fnKeyBatchesCoarserJoinsFiner", fn := fun _ => fun
  | [d1, d2, d3] => { results := [.lit (.bool true)], args := [d1, d2, d3] }
  | _ => none }
def fnKeyBatchesCoarserJoinsFinerRow : OpenClaim := { program := "qxb6613891a", sum := "a974cf859cb915192b37a9cbe14ba8a464287b40d5187bbcfea366c8b9fbf1ca", func := "example.com/brisk-orm/brisk-orm/zzlaws_root_b1.FnKeyBatchesCoarserJoinsFiner", spec := "fnKeyBatchesCoarserJoinsFiner", apart := false }
def FnKeyBatchesCoarserJoinsFinerSaid : Prop := fnKeyBatchesCoarserJoinsFinerRow.holds Try.pinned (OpenSpec.ofChange fnKeyBatchesCoarserJoinsFinerSpec)

/-- ITS FALSE NEIGHBOUR: 'it returns false'. Refute it at one input. -/
def fnKeyBatchesCoarserJoinsFinerWrong : ChangeSpec := { name := "fnKeyBatchesCoarserJoinsFiner", fn := fun _ => fun
  | [d1, d2, d3] => { results := [.lit (.bool false)], args := [d1, d2, d3] }
  | _ => none }
def FnKeyBatchesCoarserJoinsFinerWrongFalsely : Prop := fnKeyBatchesCoarserJoinsFinerRow.holds Try.pinned (OpenSpec.ofChange fnKeyBatchesCoarserJoinsFinerWrong)

end Rows
end Go.Proofs.Qxb6613891a
