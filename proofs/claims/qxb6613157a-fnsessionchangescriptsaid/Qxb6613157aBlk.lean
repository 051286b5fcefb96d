import Derived.Test.Qxb6613157aBytes
import Derived.Test.Qxb6613157aPtr
import Derived.Deep.OwnRows
import Derived.Deep.CutBlock
import Derived.Deep.DeepCutAuto
import Derived.Deep.Light
import Derived.Deep.RegionHeld3
namespace Go.Proofs.Qxb6613157a
open Go.RowKit Go.WideMaps

/-- The body of block k. -/
def blockOf (k : Nat) : Code → Option Code
  | .block n c => bif n == k then some c else blockOf k c
  | .seq a b => match blockOf k a with
    | some c => some c
    | none => blockOf k b
  | .loop c => blockOf k c
  | .cond _ a b => match blockOf k a with
    | some c => some c
    | none => blockOf k b
  | .scope c => blockOf k c
  | _ => none

end Go.Proofs.Qxb6613157a
