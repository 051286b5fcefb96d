import Derived.Test.Qxb6613157aTab
import Derived.Deep.QuietTactic
import Derived.BigQuiet
namespace Go.Proofs.Qxb6613157a
open Go.RowKit Go.WideMaps

theorem Fr.drewN {S : Nat → Prop} {a b : World} (h : Fr S a b) (n : Nat) : Fr S a (b.drewN n) := ⟨h.os, h.tape, h.output, h.size, h.block⟩

set_option maxHeartbeats 400000 in
theorem view_any (b p : Nat) (k : Key3) (r : Int) (w : World) (h : w.heap[b]? = some (.cells (entryCells k r p) 51 (0, 0))) :
    Calls Try.prog 11 #[ptr b] w fun e w' => e = .returned (.tuple #[.string k.1, .string k.2.1, .string k.2.2, .int .i64 r, .int .i64 p]) ∧ Kp w w' := by
  have h0 : w.cell? ⟨b, 0, none⟩ = some (.string k.1) := cell_of_heap h rfl
  have h1 : w.cell? ⟨b, 1, none⟩ = some (.string k.2.1) := cell_of_heap h rfl
  have h2 : w.cell? ⟨b, 2, none⟩ = some (.string k.2.2) := cell_of_heap h rfl
  have h3 : w.cell? ⟨b, 7, none⟩ = some (.int .i64 r) := cell_of_heap h rfl
  have h4 : w.cell? ⟨b, 15, none⟩ = some (.int .i64 p) := cell_of_heap h rfl
  clear h
  go_enter Try.func11, Try.ntmps11
  go_wp2
  go_quiet (fail)
  go_wp2
  refine bodyPost_ret (v := .tuple #[.string k.1, .string k.2.1, .string k.2.2, .int .i64 r, .int .i64 p]) (by simp [results, Try.results11, go_sem]) rfl ⟨rfl, ?_⟩
  exact (Fr.refl _ w).drewN _

theorem toList_inj {a b : ByteArray} (h : a.toList = b.toList) : a = b := by
  rw [ByteArray.toList_eq, ByteArray.toList_eq] at h
  exact WideShapes.bytes_inj h
theorem same3 {a b : Key3} (h1 : a.1.toList = b.1.toList) (h2 : a.2.1.toList = b.2.1.toList) : (a.2.2.toList == b.2.2.toList) = decide (a = b) := by
  obtain ⟨a1, a2, a3⟩ := a
  obtain ⟨b1, b2, b3⟩ := b
  obtain rfl := toList_inj h1
  obtain rfl := toList_inj h2
  by_cases h : a3 = b3
  · subst h; simp
  · have : ¬ a3.toList = b3.toList := fun k => h (toList_inj k)
    simp [h, this]
theorem same2 {a b : Key3} (h2 : ¬ a.2.1.toList = b.2.1.toList) : false = decide (a = b) := by
  have : ¬ a = b := fun h => h2 (by rw [h])
  simp [this]
theorem same1 {a b : Key3} (h2 : ¬ a.1.toList = b.1.toList) : false = decide (a = b) := by
  have : ¬ a = b := fun h => h2 (by rw [h])
  simp [this]
theorem ret_bool {a b : Bool} (h : a = b) : Ending.returned (.bool a) = .returned (.bool b) := by rw [h]

theorem sameKey_any (a b : Key3) (w : World) :
    Calls Try.prog 9 #[keyV a, keyV b] w fun e w' => e = .returned (.bool (decide (a = b))) ∧ Kp w w' := by
  unfold keyV
  go_enter Try.func9, Try.ntmps9
  go_wp2
  · go_ret
    exact ⟨ret_bool (same3 (by assumption) (by assumption)), ((Fr.refl _ w).alloc _).alloc _⟩
  · go_ret
    exact ⟨ret_bool (same2 (by assumption)), ((Fr.refl _ w).alloc _).alloc _⟩
  · go_ret
    exact ⟨ret_bool (same1 (by assumption)), ((Fr.refl _ w).alloc _).alloc _⟩

end Go.Proofs.Qxb6613157a
