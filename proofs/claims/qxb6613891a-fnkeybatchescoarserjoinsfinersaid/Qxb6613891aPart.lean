import Derived.Test.Qxb6613891aBats
import Derived.Deep.LoopGhost
import Derived.Deep.Light
namespace Go.Proofs.Qxb6613891a
open Go.RowKit

/-- One batch, told by its place. -/
theorem bat_mid (H o N C n b ps : Nat) (hp : ps = b * n) (h : ps + n < N) : bat H o N C n b = .slice (some ⟨H, o + ps, none⟩) n (C - ps) := by
  unfold bat; rw [← hp, Nat.min_eq_left (by omega)]
theorem bat_end (H o N C n b ps : Nat) (hp : ps = b * n) (h : N ≤ ps + n) : bat H o N C n b = .slice (some ⟨H, o + ps, none⟩) (N - ps) (C - ps) := by
  unfold bat; rw [← hp, Nat.min_eq_right (by omega)]

set_option maxRecDepth 100000 in
set_option maxHeartbeats 2000000 in
theorem part_any (H N C C' n : Nat) (v : Value) (z : Nat → Int) (w : World) (hn : 1 ≤ n) (hn2 : n ≤ 9223372036854775807) (hN : N ≤ 131072) (hB : Bats w v H 0 N C n) (hz : ∀ i, i < N → w.cell? ⟨H, i, none⟩ = some (.int .i64 (z i))) :
    Calls Try.prog 8 #[v, .slice (some ⟨H, 0, none⟩) N C', .int .i64 n] w fun e w' => e = .returned (.bool true) ∧ ∃ m, w' = w.drewN m := by
  obtain ⟨va, vc, rfl, hB⟩ := hB
  have HB := hide hB
  have HZ := hide hz
  have hcl := cnt_le N n hn
  have HL := hide (lt_cnt N n · hn)
  clear hB hz
  generalize hc0 : cnt N n = c0 at *
  clear hc0
  go_enter Try.func8, Try.ntmps8
  go_wp2
  go_loopw [7, 8] (fun pos i wr => ∃ b m ps : Nat, b ≤ c0 ∧ i = .int .i64 b ∧ pos = .int .i64 ps ∧ wr = w.drewN m ∧ Hid (ps = min (b * n) N)) (fun _ i _ => c0 - (intOf i).toNat)
  case atStart => exact ⟨0, 0, 0, Nat.zero_le _, rfl, rfl, rfl, by show 0 = min (0 * n) N; simp⟩
  case round =>
    obtain ⟨b, m, ps, hb, rfl, rfl, rfl, hps⟩ := hrel
    by_cases hlt : b < c0
    · have h1 : b * n < N := (HL.out b).1 hlt
      have hp : ps = b * n := hps.out.trans (Nat.min_eq_left (by omega))
      have hsm := Nat.succ_mul b n
      rw [← hp] at h1 hsm
      obtain ⟨g, hg, hcell⟩ := HB.out b hlt
      subst hg
      have HS := hide hsm
      have HP := hide hp
      clear hps hp hsm
      by_cases hr : ps + n < N
      · have hnl : b + 1 < c0 := (HL.out (b + 1)).2 (by rw [HS.out]; exact hr)
        rw [bat_mid H 0 N C n b ps HP.out hr, Nat.zero_add] at hcell
        go_wp2
        go_loopw [10] (fun i wr => ∃ t m : Nat, t ≤ n ∧ i = .int .i64 t ∧ wr = w.drewN m) (fun i _ => n - (intOf i).toNat)
        case atStart => exact ⟨0, m, Nat.zero_le _, rfl, rfl⟩
        case round =>
          obtain ⟨t, m, ht, rfl, rfl⟩ := hrel
          by_cases htl : t < n
          · have x1 := HZ.out (ps + t) (by omega)
            go_wp2
            go_quiet (fail)
            go_wp2
            go_roundw
            case rel => exact ⟨t + 1, _, by omega, by go_num, rfl⟩
            case measure => simp [intOf]; omega
          · go_wp2
            go_roundw
            case rel => exact ⟨b + 1, _, ps + n, by omega, by go_num, by go_num, rfl, by show ps + n = min ((b + 1) * n) N; rw [HS.out]; omega⟩
            case measure => simp [intOf]; omega
      · have hnl : b + 1 = c0 := by
          have : ¬ b + 1 < c0 := fun h => hr (by have := (HL.out (b + 1)).1 h; rw [HS.out] at this; exact this)
          omega
        have HNL := hide hnl
        have hnl2 : c0 ≤ b + 1 := by omega
        clear hnl
        rw [bat_end H 0 N C n b ps HP.out (by omega), Nat.zero_add] at hcell
        go_wp2
        go_loopw [10] (fun i wr => ∃ t m : Nat, t ≤ N - ps ∧ i = .int .i64 t ∧ wr = w.drewN m) (fun i _ => N - ps - (intOf i).toNat)
        case atStart => exact ⟨0, m, Nat.zero_le _, rfl, rfl⟩
        case round =>
          obtain ⟨t, m, ht, rfl, rfl⟩ := hrel
          by_cases htl : t < N - ps
          · have x1 := HZ.out (ps + t) (by omega)
            go_wp2
            go_quiet (fail)
            go_wp2
            go_roundw
            case rel => exact ⟨t + 1, _, by omega, by go_num, rfl⟩
            case measure => simp [intOf]; omega
          · go_wp2
            go_roundw
            case rel => exact ⟨b + 1, _, N, by omega, by go_num, by go_num, rfl, by show N = min ((b + 1) * n) N; rw [HS.out]; omega⟩
            case measure => simp [intOf]; omega
    · have hpn : ps = N := by
        have : ¬ b * n < N := fun h => hlt ((HL.out b).2 h)
        exact hps.out.trans (Nat.min_eq_right (by omega))
      subst hpn
      go_wp2
      go_ret
      exact ⟨by simp, _, rfl⟩

end Go.Proofs.Qxb6613891a
