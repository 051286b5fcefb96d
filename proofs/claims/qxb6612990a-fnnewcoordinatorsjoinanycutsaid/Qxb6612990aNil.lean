import Derived.Test.Qxb6612990aMain
namespace Go.Proofs.Qxb6612990a
open Go.RowKit

set_option maxRecDepth 100000 in
set_option maxHeartbeats 4000000 in
theorem main_nil (k : Int) (w : World) :
    Calls Try.prog 3 #[.slice none 0 0, .int .i64 k] w fun e w' => e = .returned (.bool true) ∧ Kp w w' := by
  have HB : Hid (Calls Try.prog 5 #[.slice none 0 0, .int .i64 k] w fun e w' => BoolEnd e ∧ w' = w) := bytes_zero none 0 k w
  have e1 := fun w => run_neq_slice_nil_any (P := Try.prog) w 22 9 none 0 0 0 0 Try.underlying22
  go_enter Try.func3, Try.ntmps3
  go_wp2_with fail
  refine HB.out.mono ?_
  rintro e w0 ⟨⟨b, rfl⟩, hw0⟩
  obtain rfl : w = w0 := hw0.symm
  clear hw0 HB
  cases b
  · go_wp2
    go_ret
    exact ⟨rfl, Kp.refl _⟩
  · go_wp2_with fail
    clear e1
    go_loop [6, 7] (fun t i => ∃ (z : Int), i = .int .i64 0 ∧ t = .int .i64 z) (fun _ i => 0)
    case atStart => exact ⟨0, rfl, rfl⟩
    case round =>
      obtain ⟨z, rfl, rfl⟩ := hrel
      by_cases hk0 : k < 0
      · go_wp2
        go_ret
        exact ⟨rfl, Kp.refl _⟩
      · by_cases hk1 : 0 < k
        · go_wp2
          go_ret
          exact ⟨rfl, Kp.refl _⟩
        · obtain rfl : k = 0 := by omega
          clear hk0 hk1
          go_wp2_with fail
          refine (urls_nil _).mono ?_
          rintro e w3 ⟨rfl, hw3⟩
          obtain rfl := hw3
          go_wp2_with fail
          refine (ZZnewC_any 0 0 none _ (by omega)).mono ?_
          rintro e w4 ⟨q, rfl, hC, hK4⟩
          have HC1 : Hid (Coord w4 q 0 none 0) := hC
          have HK4 : Hid (Kp w3 w4) := hK4
          clear hC hK4
          go_wp2_with fail
          refine (urls_nil _).mono ?_
          rintro e w5 ⟨rfl, hw5⟩
          obtain rfl := hw5
          go_wp2_with fail
          refine (ZZnewC_any 0 0 none _ (by omega)).mono ?_
          rintro e w6 ⟨q2, rfl, hC, hK6⟩
          have HC2 : Hid (Coord w6 q2 0 none 0) := hC
          have HK6 : Hid (Kp w5 w6) := hK6
          clear hC hK6
          go_wp2_with fail
          refine (urls_nil _).mono ?_
          rintro e w7 ⟨rfl, hw7⟩
          obtain rfl := hw7
          go_wp2_with fail
          refine (ZZnewC_any 0 0 none _ (by omega)).mono ?_
          rintro e w8 ⟨q3, rfl, hC, hK8⟩
          have Z : Hid (Coord w8 q 0 none 0 ∧ Coord w8 q2 0 none 0 ∧ Coord w8 q3 0 none 0 ∧ Kp w3 w8) :=
            ⟨(HC1.out.kp HK6.out).kp hK8, HC2.out.kp hK8, hC, (HK4.out.trans HK6.out).trans hK8⟩
          clear hC hK8 HK6 HK4 HC1 HC2
          go_wp2_with fail
          refine (fresh_any q 0 0 none _ _ Z.out.1 rfl (by omega)).mono ?_
          rintro e w9 ⟨rfl, hw9⟩
          obtain rfl := hw9
          go_wp2_with fail
          refine (fresh_any q2 0 0 none _ _ Z.out.2.1 rfl (by omega)).mono ?_
          rintro e w10 ⟨rfl, hw10⟩
          obtain rfl := hw10
          go_wp2_with fail
          refine (fresh_any q3 0 0 none _ _ Z.out.2.2.1 rfl (by omega)).mono ?_
          rintro e w11 ⟨rfl, hw11⟩
          obtain rfl := hw11
          go_wp2_with fail
          have HZ8 : Hid (Kp w3 w11) := Z.out.2.2.2
          clear Z
          go_loop [11] (fun i => i = .int .i64 0) (fun i => 0)
          case atStart => rfl
          case round =>
            subst hrel
            go_wp2
            go_ret
            exact ⟨rfl, HZ8⟩

end Go.Proofs.Qxb6612990a
