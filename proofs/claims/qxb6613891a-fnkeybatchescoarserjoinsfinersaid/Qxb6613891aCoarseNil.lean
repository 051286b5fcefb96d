import Derived.Test.Qxb6613891aCoarse
namespace Go.Proofs.Qxb6613891a
open Go.RowKit

theorem part_none (n : Int) (w : World) :
    Calls Try.prog 8 #[.slice none 0 0, .slice none 0 0, .int .i64 n] w fun e w' => e = .returned (.bool true) ∧ w' = w := by
  go_enter Try.func8, Try.ntmps8
  go_wp2
  go_loop [7, 8] (fun p b => p = .int .i64 0 ∧ b = .int .i64 0) (fun _ _ => 0)
  case atStart => exact ⟨rfl, rfl⟩
  case round =>
    obtain ⟨rfl, rfl⟩ := hrel
    go_wp2
    go_ret
    exact ⟨rfl, rfl⟩

set_option maxRecDepth 100000 in
set_option maxHeartbeats 2000000 in
theorem coarse_nil (n m : Int) (w : World) (hn : 1 ≤ n) (hn2 : n ≤ 16777216) (hm : 1 ≤ m) (hm2 : m ≤ 64) :
    Calls Try.prog 4 #[.int .i64 n, .int .i64 m, .slice none 0 0] w fun e w' => e = .returned (.bool true) ∧ Kp w w' := by
  have HB := hide (bytesC_any none 0 0 n m w (by unfold maxLen; omega))
  have hdiv : (m - 1) / m = 0 := Int.ediv_eq_zero_of_lt (by omega) (by omega)
  go_enter Try.func4, Try.ntmps4
  go_wp2_with fail
  refine HB.out.mono ?_
  rintro e w0 ⟨⟨b, rfl⟩, hw0⟩
  obtain rfl : w = w0 := hw0.symm
  clear hw0 HB
  cases b
  · go_wp2; go_ret; exact ⟨rfl, Kp.refl _⟩
  · go_wp2_with fail
    refine (clone_nil w).mono ?_
    rintro e w1 ⟨rfl, hw1⟩
    obtain rfl : w = w1 := hw1.symm
    clear hw1
    go_wp2_with fail
    refine (zz_zero none 0 n _).mono ?_
    rintro e w2 ⟨rfl, hk2⟩
    have HK2 := hide hk2
    clear hk2
    go_wp2_with fail
    refine (zz_zero none 0 _ _).mono ?_
    rintro e w3 ⟨rfl, hk3⟩
    have HK3 := hide (HK2.out.trans hk3)
    clear hk3 HK2
    go_wp2_with fail
    refine (part_none n _).mono ?_
    rintro e w5 ⟨rfl, hw5⟩
    subst hw5
    go_wp2_with fail
    go_loop [9] (fun i => i = .int .i64 0) (fun _ => 0)
    case atStart => rfl
    case round =>
      subst hrel
      go_wp2
      go_ret
      exact ⟨rfl, HK3.out⟩

end Go.Proofs.Qxb6613891a
