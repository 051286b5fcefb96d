import Derived.Test.Qxb6612990aLeaf
import Derived.Laws.MakeOwn
namespace Go.Proofs.Qxb6612990a
open Go.RowKit

theorem Try.info77 : (Try.prog.info? 77).map (fun i => (i.zero, i.size, i.bytes)) = some (some (.agg #[.int .i64 0, .int .i64 0]), 2, 16) := by kernel_rfl

/-- What 'make([]missed, n)' lays. -/
def zeros2 (n : Nat) : Array Value := madeCells #[.int .i64 0, .int .i64 0] (n * 2)
theorem zeros2_at (n j : Nat) (h : j < n * 2) : (zeros2 n)[j]? = some (.int .i64 0) := by
  unfold zeros2 madeCells
  have h2 : j % 2 = 0 ∨ j % 2 = 1 := by omega
  rcases h2 with h2 | h2 <;> simp [h, h2]

theorem make77 (n : Nat) (hn : n ≤ 1048576) (w : World) :
    (Instr.makeSlice 56 (.int .i64 (n : Int)) (.int .i64 (n : Int))).run Try.prog w = .ok (.slice (some ⟨w.heap.size, 0, none⟩) n n) (w.alloc (.cells (zeros2 n) 77)) := by
  obtain ⟨i, hi, hzz⟩ := Option.map_eq_some_iff.1 Try.info77
  simp only [Prod.mk.injEq] at hzz
  obtain ⟨hz, hs, hb⟩ := hzz
  have hr := run_make (P := Try.prog) w 56 77 i _ Try.underlying56 hi hz .i64 .i64 n n (by omega) (Int.le_refl _) (by rw [hb]; omega) (by omega)
  rw [hs] at hr
  simpa [zeros2, Value.cells] using hr

/-- c, at block q, is a fresh list of n coordinators over the bases at ao. -/
def Coord (w : World) (q n : Nat) (ao : Option Addr) (c : Nat) : Prop :=
  w.cell? ⟨q, 0, none⟩ = some (.slice ao n c) ∧ w.cell? ⟨q, 1, none⟩ = some (.int .u64 0) ∧
  ∃ m, w.cell? ⟨q, 2, none⟩ = some (.slice (some ⟨m, 0, none⟩) n n) ∧ ∀ j, j < n * 2 → w.cell? ⟨m, j, none⟩ = some (.int .i64 0)

theorem Coord.kp {w w' : World} {q n c : Nat} {ao : Option Addr} (h : Coord w q n ao c) (k : Kp w w') : Coord w' q n ao c := by
  obtain ⟨h0, h1, m, h2, h3⟩ := h
  exact ⟨k.cell h0, k.cell h1, m, k.cell h2, fun j hj => k.cell (h3 j hj)⟩

theorem coord_made (w : World) (n c : Nat) (ao : Option Addr) :
    Coord ((w.alloc (.cells (zeros2 n) 77)).alloc (.cells #[.slice ao n c, .int .u64 0, .slice (some ⟨w.heap.size, 0, none⟩) n n] 58)) (w.heap.size + 1) n ao c := by
  refine ⟨?_, ?_, w.heap.size, ?_, ?_⟩
  · simp [go_sem]
  · simp [go_sem]
  · simp [go_sem]
  · intro j hj
    have := zeros2_at n j hj
    simp [go_sem, this]

theorem newC_any (n c : Nat) (ao : Option Addr) (w : World) (hn : n ≤ 1048576) :
    Calls Try.prog 19 #[.slice ao n c] w fun e w' => ∃ q, e = .returned (.pointer (some ⟨q, 0, none⟩)) ∧ Coord w' q n ao c ∧ Kp w w' := by
  have hmk := make77 n hn
  go_enter Try.func19, Try.ntmps19
  go_wp2
  go_ret
  exact ⟨w.heap.size + 1, rfl, coord_made w n c ao, ((Kp.refl w).alloc _).alloc _⟩

theorem ZZnewC_any (n c : Nat) (ao : Option Addr) (w : World) (hn : n ≤ 1048576) :
    Calls Try.prog 6 #[.slice ao n c] w fun e w' => ∃ q, e = .returned (.pointer (some ⟨q, 0, none⟩)) ∧ Coord w' q n ao c ∧ Kp w w' := by
  go_enter Try.func6, Try.ntmps6
  go_wp2_with (go_at_call 19; refine (newC_any n c ao _ hn).mono ?_; rintro e w' ⟨q, rfl, hq, hk⟩)
  go_ret
  exact ⟨_, rfl, by assumption, by assumption⟩

theorem fresh_any (q n c : Nat) (ao : Option Addr) (N : Int) (w : World) (h : Coord w q n ao c) (hN : N = (n : Int)) (hn : n ≤ 1048576) :
    Calls Try.prog 8 #[.pointer (some ⟨q, 0, none⟩), .int .i64 N] w fun e w' => e = .returned (.bool true) ∧ w' = w := by
  subst hN
  obtain ⟨h0, h1, m, h2, h3⟩ := h
  have H3 : Hid (∀ j, j < n * 2 → w.cell? ⟨m, j, none⟩ = some (.int .i64 0)) := h3
  clear h3
  go_enter Try.func8, Try.ntmps8
  go_wp2_with (first | (go_at_call 20; refine (coordLen_any q n c ao _ h0).mono ?_; rintro e w' ⟨rfl, rfl⟩) | (go_at_call 21; refine (coordMissedLen_any q n n _ _ h2).mono ?_; rintro e w' ⟨rfl, rfl⟩) | (go_at_call 22; refine (coordTurns_any q _ h1).mono ?_; rintro e w' ⟨rfl, rfl⟩))
  go_loop [5] (fun i => ∃ k : Nat, k ≤ n ∧ i = .int .i64 k) (fun i => n - (intOf i).toNat)
  case atStart => exact ⟨0, Nat.zero_le _, rfl⟩
  case round =>
    obtain ⟨k, hk, rfl⟩ := hrel
    by_cases hlt : k < n
    · have ha := H3.out (k * 2) (by omega)
      have hb := H3.out (k * 2 + 1) (by omega)
      go_wp2_with (first | (go_at_call 23; refine (coordMissedTimes_any q n n m k _ h2 hlt ha).mono ?_; rintro e w' ⟨rfl, rfl⟩) | (go_at_call 24; refine (coordMissedUntil_any q n n m k _ h2 hlt hb).mono ?_; rintro e w' ⟨rfl, rfl⟩))
      go_round
      case rel => exact ⟨k + 1, by omega, by go_num⟩
      case measure => simp [intOf]; omega
    · go_wp2
      go_ret
      exact ⟨rfl, rfl⟩

end Go.Proofs.Qxb6612990a
