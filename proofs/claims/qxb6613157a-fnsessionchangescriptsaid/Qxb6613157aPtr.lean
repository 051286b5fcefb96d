import Derived.Test.Qxb6613157aInvC
import Derived.LaidEql
namespace Go.Proofs.Qxb6613157a
open Go.RowKit Go.WideMaps

theorem equalIn_ptr (d : Nat) (a b : Addr) (r : Bool) (w : World) (hs : (sameAddr a b).run Try.prog w = .ok r w) :
    (Op.equalIn (d + 1) 29 (.pointer (some a)) (.pointer (some b))).run Try.prog w = .ok r w := by
  simp [Op.equalIn, run_underlying Try.underlying29, hs]

theorem eql_ptr (a b : Addr) (r : Bool) (w : World) (hs : (sameAddr a b).run Try.prog w = .ok r w) :
    (binOp .eql 29 (.pointer (some a)) (.pointer (some b))).run Try.prog w = .ok (.bool r) w := by
  simp only [binOp]
  simp [Op.equal, Op.maxDepth, equalIn_ptr 9999 a b r w hs]
theorem neq_ptr (a b : Addr) (r : Bool) (w : World) (hs : (sameAddr a b).run Try.prog w = .ok r w) :
    (binOp .neq 29 (.pointer (some a)) (.pointer (some b))).run Try.prog w = .ok (.bool !r) w := by
  simp only [binOp]
  simp [Op.equal, Op.maxDepth, equalIn_ptr 9999 a b r w hs]

theorem eql_same (b : Nat) (w : World) : (binOp .eql 29 (ptr b) (ptr b)).run Try.prog w = .ok (.bool true) w := eql_ptr _ _ true w (run_sameAddr_same _ _)
theorem neq_same (b : Nat) (w : World) : (binOp .neq 29 (ptr b) (ptr b)).run Try.prog w = .ok (.bool false) w := neq_ptr _ _ true w (run_sameAddr_same _ _)
theorem eql_other {b b' : Nat} {w : World} {ca cb : Array Value} {ta tb : TypeId} (h : b ≠ b') (h1 : w.heap[b]? = some (.cells ca ta (0, 0))) (h2 : w.heap[b']? = some (.cells cb tb (0, 0))) (m : Nat) :
    (binOp .eql 29 (ptr b) (ptr b')).run Try.prog (w.drewN m) = .ok (.bool false) (w.drewN m) :=
  eql_ptr _ _ false _ (run_sameAddr_other _ (fun e => h (congrArg Addr.block e)) h1 h2)

end Go.Proofs.Qxb6613157a
