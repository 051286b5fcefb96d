import Derived.Test.Qxb6612990aUrls
namespace Go.Proofs.Qxb6612990a
open Go.RowKit

/-- n strings lie at a. -/
def Raw (w : World) (a : Option Addr) (n : Nat) (f : Nat → ByteArray) : Prop :=
  ∀ i, i < n → ∃ b o, a = some ⟨b, o, none⟩ ∧ w.cell? ⟨b, o + i, none⟩ = some (.string (f i)) ∧ (f i).size ≤ maxLen

/-- The call hands back some bool. -/
def BoolEnd (e : Ending) : Prop := ∃ b, e = .returned (.bool b)

theorem bytes_zero (a : Option Addr) (c : Nat) (k : Int) (w : World) :
    Calls Try.prog 5 #[.slice a 0 c, .int .i64 k] w fun e w' => BoolEnd e ∧ w' = w := by
  go_enter Try.func5, Try.ntmps5
  go_wp2
  go_loop [6] (fun i => i = .int .i64 0) (fun _ => 0)
  case atStart => rfl
  case round =>
    subst hrel
    go_wp2
    go_ret
    exact ⟨⟨_, rfl⟩, rfl⟩

set_option maxHeartbeats 400000 in
theorem bytes_pos (b o n c : Nat) (f : Nat → ByteArray) (k : Int) (w : World) (hn : n ≤ maxLen) (h : Raw w (some ⟨b, o, none⟩) n f) :
    Calls Try.prog 5 #[.slice (some ⟨b, o, none⟩) n c, .int .i64 k] w fun e w' => BoolEnd e ∧ w' = w := by
  unfold maxLen at hn
  have H : Hid (Raw w (some ⟨b, o, none⟩) n f) := h
  clear h
  by_cases hb : n ≤ 1048576
  · go_enter Try.func5, Try.ntmps5
    go_wp2
    go_loop [5, 6] (fun t i => ∃ (j : Nat) (z : Int), j ≤ n ∧ i = .int .i64 j ∧ 0 ≤ z ∧ z ≤ 1048576 ∧ t = .int .i64 z) (fun _ i => n - (intOf i).toNat)
    case atStart => exact ⟨0, n, Nat.zero_le _, rfl, by omega, by omega, rfl⟩
    case round =>
      obtain ⟨j, z, hj, rfl, hz0, hz1, rfl⟩ := hrel
      by_cases hlt : j < n
      · obtain ⟨b', o', hbo, hc, hs⟩ := H.out j hlt
        obtain ⟨rfl, rfl⟩ : b = b' ∧ o = o' := by simpa using hbo
        unfold maxLen at hs
        clear hbo
        go_wp2
        · go_ret
          exact ⟨⟨_, rfl⟩, rfl⟩
        · go_ret
          exact ⟨⟨_, rfl⟩, rfl⟩
        · go_round
          case rel => refine ⟨j + 1, _, by omega, by go_num, ?_, ?_, rfl⟩ <;> omega
          case measure => simp [intOf]; omega
      · go_wp2
        go_ret
        exact ⟨⟨_, rfl⟩, rfl⟩
  · go_enter Try.func5, Try.ntmps5
    go_wp2
    go_ret
    exact ⟨⟨_, rfl⟩, rfl⟩

theorem bytes_any (a : Option Addr) (n c : Nat) (f : Nat → ByteArray) (k : Int) (w : World) (hn : n ≤ maxLen) (h : Raw w a n f) :
    Calls Try.prog 5 #[.slice a n c, .int .i64 k] w fun e w' => BoolEnd e ∧ w' = w := by
  by_cases h0 : n = 0
  · subst h0; exact bytes_zero a c k w
  · obtain ⟨b, o, rfl, _⟩ := h 0 (by omega)
    exact bytes_pos b o n c f k w hn h

end Go.Proofs.Qxb6612990a
