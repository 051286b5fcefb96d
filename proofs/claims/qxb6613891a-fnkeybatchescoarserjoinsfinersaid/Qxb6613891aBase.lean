import Derived.Test.Qxb6613891aProg
import Derived.WalkKit
import Derived.WalkSpells
import Derived.WalkLawsBesides
import Derived.Deep.OwnRows
import Derived.Deep.QuietTactic
import Derived.BigQuiet
namespace Go.Proofs.Qxb6613891a
open Go.RowKit

/-- Whatever lay in w lies in w' as it was. -/
def Kp (w w' : World) : Prop := Below w.heap.size w w'
theorem Kp.refl (w : World) : Kp w w := Below.refl _ _
theorem Kp.trans {a b c : World} (h : Kp a b) (k : Kp b c) : Kp a c := Below.trans h (Below.mono k h.size)
theorem Kp.drewN {a b : World} (h : Kp a b) (n : Nat) : Kp a (b.drewN n) := ⟨h.os, h.tape, h.output, h.size, h.block⟩
theorem Kp.drew {a b : World} (h : Kp a b) : Kp a b.drew := Below.drew h
theorem Kp.alloc {a b : World} (h : Kp a b) (o : Obj) : Kp a (b.alloc o) := Below.alloc h h.size o
theorem Kp.cell {a b : World} (h : Kp a b) {p : Addr} {v : Value} (hc : a.cell? p = some v) : b.cell? p = some v :=
  (Below.cell h (World.block_lt_of_cell? a p hc)).trans hc
theorem hide {p : Prop} (h : p) : Hid p := h

theorem Try.info2 : (Try.prog.info? 2).map (fun i => (i.zero, i.size, i.bytes)) = some (some (.int .i64 0), 1, 8) := by kernel_rfl
theorem Try.info22 : (Try.prog.info? 22).map (fun i => (i.zero, i.size, i.bytes)) = some (some (.slice none 0 0), 1, 24) := by kernel_rfl

/-- N numbers lie at a. -/
def RawI (w : World) (a : Option Addr) (N : Nat) (z : Nat → Int) : Prop :=
  ∀ i, i < N → ∃ b o, a = some ⟨b, o, none⟩ ∧ w.cell? ⟨b, o + i, none⟩ = some (.int .i64 (z i))

/-- The call hands back some bool. -/
def BoolEnd (e : Ending) : Prop := ∃ b, e = .returned (.bool b)

theorem bytesS_any (a : Option Addr) (N c : Nat) (n k : Int) (w : World) (hN : N ≤ maxLen) :
    Calls Try.prog 5 #[.int .i64 n, .slice a N c, .int .i64 k] w fun e w' => BoolEnd e ∧ w' = w := by
  unfold maxLen at hN
  go_enter Try.func5, Try.ntmps5
  go_wp2
  all_goals (go_ret; exact ⟨⟨_, rfl⟩, rfl⟩)

theorem bytesC_any (a : Option Addr) (N c : Nat) (n k : Int) (w : World) (hN : N ≤ maxLen) :
    Calls Try.prog 10 #[.int .i64 n, .int .i64 k, .slice a N c] w fun e w' => BoolEnd e ∧ w' = w := by
  unfold maxLen at hN
  go_enter Try.func10, Try.ntmps10
  go_wp2
  all_goals (go_ret; exact ⟨⟨_, rfl⟩, rfl⟩)

/-! ### cloneInt64s -/
theorem clone_nil (w : World) : Calls Try.prog 6 #[.slice none 0 0] w fun e w' => e = .returned (.slice none 0 0) ∧ w' = w := by
  have e1 := fun w => Lib.run_eql_slice_nil (P := Try.prog) w 22 2 none 0 0 0 0 Try.underlying22
  go_enter Try.func6, Try.ntmps6
  go_wp2
  go_ret
  exact ⟨rfl, rfl⟩

structure Cloned (w wr : World) (N k : Nat) (z : Nat → Int) : Prop where
  kp : Kp w wr
  row : ∃ f, wr.rowIs w.heap.size 2 N f ∧ ∀ i, i < k → f i = .int .i64 (z i)

theorem cloned_start (w : World) (N : Nat) (z : Nat → Int) : Cloned w (w.alloc (.cells (madeCells #[.int .i64 0] N) 2)) N 0 z :=
  ⟨(Kp.refl w).alloc _, _, World.rowIs_made w _ N 2, fun i hi => absurd hi (by omega)⟩
theorem Cloned.step {w wr : World} {N k : Nat} {z : Nat → Int} (h : Cloned w wr N k z) : Cloned w (wr.setCell ⟨w.heap.size, k, none⟩ (.int .i64 (z k))) N (k + 1) z := by
  obtain ⟨hk, f, hf, hp⟩ := h
  refine ⟨Below.setCell hk (Nat.le_refl _) _, _, hf.set k _, fun i hi => ?_⟩
  by_cases e : i = k
  · simp [e]
  · simp only [if_neg e]
    exact hp i (by omega)

set_option maxHeartbeats 400000 in
theorem clone_any (x : Addr) (N c : Nat) (z : Nat → Int) (w : World) (hN : N ≤ 131072) (h : RawI w (some x) N z) :
    Calls Try.prog 6 #[.slice (some x) N c] w fun e w' => e = .returned (.slice (some ⟨w.heap.size, 0, none⟩) N N) ∧ (∀ i, i < N → w'.cell? ⟨w.heap.size, i, none⟩ = some (.int .i64 (z i))) ∧ Kp w w' := by
  have e1 := fun w => Lib.run_eql_slice_nil (P := Try.prog) w 22 2 (some x) N c 0 0 Try.underlying22
  have hmk := run_make_row' (P := Try.prog) 22 2 (.int .i64 0) 8 Try.underlying22 Try.info2 rfl .i64 .i64 N (by omega) (by omega)
  have H := hide h
  clear h
  go_enter Try.func6, Try.ntmps6
  go_wp2
  clear e1 hmk
  go_loopw [4] (fun i wr => ∃ k : Nat, k ≤ N ∧ i = .int .i64 k ∧ Cloned w wr N k z) (fun i _ => N - (intOf i).toNat)
  case atStart => exact ⟨0, Nat.zero_le _, rfl, cloned_start w N z⟩
  case round =>
    obtain ⟨k, hk, rfl, hC⟩ := hrel
    by_cases hlt : k < N
    · obtain ⟨b, o, hx, x1⟩ := H.out k hlt
      obtain rfl := Option.some.inj hx
      clear hx H
      have y1 := hC.kp.cell x1
      obtain ⟨f, hf, _⟩ := hC.row
      have h2 : wr.frozen? ⟨w.heap.size, k, none⟩ = false := hf.frozen k
      have h3 : wr.cell? ⟨w.heap.size, k, none⟩ = some (f k) := hf.cell hlt
      have HC := hide hC
      clear hC hf x1
      go_wp2
      go_roundw
      case rel => exact ⟨k + 1, by omega, by go_num, HC.out.step⟩
      case measure => simp [intOf]; omega
    · have : k = N := by omega
      subst this
      have HC := hide hC
      clear hC
      go_wp2
      go_ret
      obtain ⟨f, hf, hp⟩ := HC.out.row
      exact ⟨rfl, fun i hi => by rw [hf.cell hi, hp i hi], HC.out.kp⟩

end Go.Proofs.Qxb6613891a
