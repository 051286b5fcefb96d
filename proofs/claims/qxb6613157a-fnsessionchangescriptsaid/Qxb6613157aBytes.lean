import Derived.Test.Qxb6613157aZch
namespace Go.Proofs.Qxb6613157a
open Go.RowKit Go.WideMaps

/-- n keys lie at a. -/
def RawK (w : World) (a : Option Addr) (n : Nat) (ks : Nat → Key3) : Prop :=
  ∀ i, i < n → ∃ b o, a = some ⟨b, o, none⟩ ∧ w.cell? ⟨b, o + i * 3, none⟩ = some (.string (ks i).1) ∧ w.cell? ⟨b, o + i * 3 + 1, none⟩ = some (.string (ks i).2.1) ∧ w.cell? ⟨b, o + i * 3 + 2, none⟩ = some (.string (ks i).2.2)

/-- The call hands back some bool. -/
def BoolEnd (e : Ending) : Prop := ∃ b, e = .returned (.bool b)

set_option maxRecDepth 100000 in
set_option maxHeartbeats 1000000 in
theorem bytes_any (a a' : Option Addr) (n n' c c' : Nat) (ks qs : Nat → Key3) (sh : Bool) (w : World) (hn : n ≤ maxLen) (hn' : n' ≤ maxLen) (h : RawK w a n ks) (h' : RawK w a' n' qs) :
    Calls Try.prog 4 #[.slice a n c, .slice a' n' c', .bool sh] w fun e w' => BoolEnd e ∧ w' = w := by
  unfold maxLen at hn hn'
  have H := hide h
  have H' := hide h'
  clear h h'
  by_cases hb : n ≤ 1048576
  · go_enter Try.func4, Try.ntmps4
    go_wp2
    go_loop [7, 8] (fun t i => ∃ (j : Nat) (z : Int), j ≤ n ∧ i = .int .i64 j ∧ t = .int .i64 z) (fun _ i => n - (intOf i).toNat)
    case atStart => exact ⟨0, _, Nat.zero_le _, rfl, rfl⟩
    case round =>
      obtain ⟨j, z, hj, rfl, rfl⟩ := hrel
      by_cases hlt : j < n
      · obtain ⟨b, o, rfl, x1, x2, x3⟩ := H.out j hlt
        clear H H'
        go_wp2
        all_goals first
          | (go_round
             case rel => exact ⟨j + 1, _, by omega, by go_num, rfl⟩
             case measure => simp [intOf]; omega)
          | (go_ret; exact ⟨⟨_, rfl⟩, rfl⟩)
      · clear H
        by_cases hb' : n' ≤ 1048576
        · go_wp2
          · go_ret; exact ⟨⟨_, rfl⟩, rfl⟩
          · go_loop [7, 9] (fun t i => ∃ (j : Nat) (z : Int), j ≤ n' ∧ i = .int .i64 j ∧ t = .int .i64 z) (fun _ i => n' - (intOf i).toNat)
            case atStart => exact ⟨0, _, Nat.zero_le _, rfl, rfl⟩
            case round =>
              obtain ⟨l, y, hl, rfl, rfl⟩ := hrel
              by_cases hlt' : l < n'
              · obtain ⟨b, o, rfl, x1, x2, x3⟩ := H'.out l hlt'
                clear H'
                go_wp2
                all_goals first
                  | (go_round
                     case rel => exact ⟨l + 1, _, by omega, by go_num, rfl⟩
                     case measure => simp [intOf]; omega)
                  | (go_ret; exact ⟨⟨_, rfl⟩, rfl⟩)
              · go_wp2
                go_ret; exact ⟨⟨_, rfl⟩, rfl⟩
        · go_wp2
          go_ret; exact ⟨⟨_, rfl⟩, rfl⟩
  · go_enter Try.func4, Try.ntmps4
    go_wp2
    go_ret; exact ⟨⟨_, rfl⟩, rfl⟩

end Go.Proofs.Qxb6613157a
