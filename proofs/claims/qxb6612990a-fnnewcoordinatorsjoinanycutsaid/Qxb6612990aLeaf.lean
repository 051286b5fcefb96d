import Derived.Test.Qxb6612990aProg
import Derived.WalkKit
import Derived.WalkSpells
import Derived.WalkLawsBesides
import Derived.Laws.LoneSync
namespace Go.Proofs.Qxb6612990a
open Go.RowKit

/-- Whatever lay in w lies in w' as it was. -/
def Kp (w w' : World) : Prop := Below w.heap.size w w'
theorem Kp.refl (w : World) : Kp w w := Below.refl _ _
theorem Kp.trans {a b c : World} (h : Kp a b) (k : Kp b c) : Kp a c := Below.trans h (Below.mono k h.size)
theorem Kp.drew {a b : World} (h : Kp a b) : Kp a b.drew := Below.drew h
theorem Kp.alloc {a b : World} (h : Kp a b) (o : Obj) : Kp a (b.alloc o) := Below.alloc h h.size o
theorem Kp.setCell {a b : World} (h : Kp a b) {p : Addr} (hp : a.heap.size ≤ p.block) (u : Value) : Kp a (b.setCell p u) := Below.setCell h hp u
theorem Kp.cell {a b : World} (h : Kp a b) {p : Addr} {v : Value} (hc : a.cell? p = some v) : b.cell? p = some v :=
  (Below.cell h (World.block_lt_of_cell? a p hc)).trans hc
theorem Kp.below {a b : World} (h : Kp a b) : Below a.heap.size a b := h

/-- 'len(c.bases)' -/
theorem coordLen_any (q n c : Nat) (ao : Option Addr) (w : World) (h0 : w.cell? ⟨q, 0, none⟩ = some (.slice ao n c)) :
    Calls Try.prog 20 #[.pointer (some ⟨q, 0, none⟩)] w fun e w' => e = .returned (.int .i64 n) ∧ w' = w := by
  go_enter Try.func20, Try.ntmps20
  go_wp2
  go_ret
  exact ⟨rfl, rfl⟩

theorem coordMissedLen_any (q n c : Nat) (ao : Option Addr) (w : World) (h0 : w.cell? ⟨q, 2, none⟩ = some (.slice ao n c)) :
    Calls Try.prog 21 #[.pointer (some ⟨q, 0, none⟩)] w fun e w' => e = .returned (.int .i64 n) ∧ w' = w := by
  go_enter Try.func21, Try.ntmps21
  go_wp2
  go_ret
  exact ⟨rfl, rfl⟩

theorem coordTurns_any (q : Nat) (w : World) (h0 : w.cell? ⟨q, 1, none⟩ = some (.int .u64 0)) :
    Calls Try.prog 22 #[.pointer (some ⟨q, 0, none⟩)] w fun e w' => e = .returned (.int .u64 0) ∧ w' = w := by
  have hl := run_call_load (P := Try.prog) Try.func31 (by kernel_rfl) (by kernel_rfl) (by kernel_rfl) .u64 (by kernel_rfl) h0
  go_enter Try.func22, Try.ntmps22
  go_wp2
  go_ret
  exact ⟨rfl, rfl⟩

theorem coordBaseHost_any (q n c g o b i : Nat) (s : ByteArray) (w : World) (h0 : w.cell? ⟨q, 0, none⟩ = some (.slice (some ⟨g, o, none⟩) n c))
    (hi : i < n) (h1 : w.cell? ⟨g, o + i, none⟩ = some (.pointer (some ⟨b, 0, none⟩))) (h2 : w.cell? ⟨b, 3, none⟩ = some (.string s)) :
    Calls Try.prog 9 #[.pointer (some ⟨q, 0, none⟩), .int .i64 i] w fun e w' => e = .returned (.string s) ∧ w' = w := by
  go_enter Try.func9, Try.ntmps9
  go_wp2
  go_ret
  exact ⟨rfl, rfl⟩

theorem coordMissedTimes_any (q n c g i : Nat) (w : World) (h0 : w.cell? ⟨q, 2, none⟩ = some (.slice (some ⟨g, 0, none⟩) n c))
    (hi : i < n) (h1 : w.cell? ⟨g, i * 2, none⟩ = some (.int .i64 0)) :
    Calls Try.prog 23 #[.pointer (some ⟨q, 0, none⟩), .int .i64 i] w fun e w' => e = .returned (.int .i64 0) ∧ w' = w := by
  have hl := run_call_load (P := Try.prog) Try.func32 (by kernel_rfl) (by kernel_rfl) (by kernel_rfl) .i64 (by kernel_rfl) h1
  go_enter Try.func23, Try.ntmps23
  go_wp2
  go_ret
  exact ⟨rfl, rfl⟩

theorem coordMissedUntil_any (q n c g i : Nat) (w : World) (h0 : w.cell? ⟨q, 2, none⟩ = some (.slice (some ⟨g, 0, none⟩) n c))
    (hi : i < n) (h1 : w.cell? ⟨g, i * 2 + 1, none⟩ = some (.int .i64 0)) :
    Calls Try.prog 24 #[.pointer (some ⟨q, 0, none⟩), .int .i64 i] w fun e w' => e = .returned (.int .i64 0) ∧ w' = w := by
  have hl := run_call_load (P := Try.prog) Try.func32 (by kernel_rfl) (by kernel_rfl) (by kernel_rfl) .i64 (by kernel_rfl) h1
  go_enter Try.func24, Try.ntmps24
  go_wp2
  go_ret
  exact ⟨rfl, rfl⟩

end Go.Proofs.Qxb6612990a
