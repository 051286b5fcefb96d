import Derived.Test.Qxb6613891aSplit
namespace Go.Proofs.Qxb6613891a
open Go.RowKit

theorem part_nil (n : Int) (w : World) :
    Calls Try.prog 8 #[.slice none 0 0, .slice none 0 0, .int .i64 n] w fun e w' => e = .returned (.bool true) ∧ w' = w := by
  go_enter Try.func8, Try.ntmps8
  go_wp2
  go_loop [7, 8] (fun p b => p = .int .i64 0 ∧ b = .int .i64 0) (fun _ _ => 0)
  case atStart => exact ⟨rfl, rfl⟩
  case round =>
    obtain ⟨rfl, rfl⟩ := hrel
    go_wp2
    go_ret
    exact ⟨rfl, rfl⟩

set_option maxRecDepth 100000 in
set_option maxHeartbeats 2000000 in
theorem split_nil (n k : Int) (w : World) (hn : 1 ≤ n) (hk : 0 ≤ k) :
    Calls Try.prog 3 #[.int .i64 n, .slice none 0 0, .int .i64 k] w fun e w' => e = .returned (.bool true) ∧ Kp w w' := by
  have HB := hide (bytesS_any none 0 0 n k w (by unfold maxLen; omega))
  go_enter Try.func3, Try.ntmps3
  go_wp2_with fail
  refine HB.out.mono ?_
  rintro e w0 ⟨⟨b, rfl⟩, hw0⟩
  obtain rfl : w = w0 := hw0.symm
  clear hw0 HB
  cases b
  · go_wp2; go_ret; exact ⟨rfl, Kp.refl _⟩
  · go_wp2_with fail
    refine (clone_nil w).mono ?_
    rintro e w1 ⟨rfl, hw1⟩
    obtain rfl : w = w1 := hw1.symm
    clear hw1
    go_upto_if 36 with fail
    go_cut [7] (fun v wc => v = .int .i64 0 ∧ wc = w)
    case first =>
      by_cases h0 : k = 0
      · subst h0
        go_wp2
        go_meet
        case rel => exact ⟨rfl, rfl⟩
      · have h1 : 0 < k := by omega
        clear h0
        go_wp2
        go_meet
        case rel => exact ⟨rfl, rfl⟩
    case rest =>
      obtain ⟨rfl, hw⟩ := hcut
      subst hw
      go_wp2_with fail
      refine (zz_zero none 0 n _).mono ?_
      rintro e w2 ⟨rfl, hk2⟩
      have HK2 := hide hk2
      clear hk2
      go_wp2_with fail
      refine (zz_zero none 0 n _).mono ?_
      rintro e w3 ⟨rfl, hk3⟩
      have HK3 := hide (HK2.out.trans hk3)
      clear hk3 HK2
      go_wp2_with fail
      refine (zz_zero none 0 n _).mono ?_
      rintro e w4 ⟨rfl, hk4⟩
      have HK4 := hide (HK3.out.trans hk4)
      clear hk4 HK3
      go_wp2_with fail
      refine (part_nil n _).mono ?_
      rintro e w5 ⟨rfl, hw5⟩
      subst hw5
      go_wp2_with fail
      go_loop [11] (fun i => i = .int .i64 0) (fun _ => 0)
      case atStart => rfl
      case round =>
        subst hrel
        go_wp2
        go_loop [12] (fun i => i = .int .i64 0) (fun _ => 0)
        case atStart => rfl
        case round =>
          subst hrel
          go_wp2
          go_ret
          exact ⟨rfl, HK4.out⟩

end Go.Proofs.Qxb6613891a
