import Derived.Test.Qxb6613891aCut
namespace Go.Proofs.Qxb6613891a
open Go.RowKit

/-- v is the slice of the batches of N numbers at ⟨H, o⟩. -/
def Bats (w : World) (v : Value) (H o N C n : Nat) : Prop :=
  ∃ a c, v = .slice a (cnt N n) c ∧ ∀ i, i < cnt N n → ∃ g, a = some ⟨g, 0, none⟩ ∧ w.cell? ⟨g, i, none⟩ = some (bat H o N C n i)

theorem bats_of {w : World} {base : Nat} {v : Value} {H o N C n : Nat} (h : w.ownsRow base 22 1 v (cnt N n) (batRow H o N C n (cnt N n))) : Bats w v H o N C n := by
  rcases h.2 with ⟨rfl, h0⟩ | ⟨g, cap, cur, rfl, _⟩
  · exact ⟨none, 0, by rw [h0], fun i hi => absurd hi (by omega)⟩
  · exact ⟨_, _, rfl, fun i hi => ⟨g, rfl, by rw [h.cellAt i (by omega), batRow_at _ _ _ _ _ _ _ hi]⟩⟩
theorem Bats.kp {w w' : World} {v : Value} {H o N C n : Nat} (h : Bats w v H o N C n) (k : Kp w w') : Bats w' v H o N C n := by
  obtain ⟨a, c, h1, h2⟩ := h
  refine ⟨a, c, h1, fun i hi => ?_⟩
  obtain ⟨g, h3, h4⟩ := h2 i hi
  exact ⟨g, h3, k.cell h4⟩

theorem kb_any (D H o N C n : Nat) (w : World) (hd : w.cell? ⟨D, 5, none⟩ = some (.int .i64 n)) (hn : 1 ≤ n) (hn2 : n ≤ 9223372036854775807) (hN : N ≤ 131072) (hC : N ≤ C) (hC2 : C ≤ 131072) :
    Calls Try.prog 11 #[.pointer (some ⟨D, 0, none⟩), .slice (some ⟨H, o, none⟩) N C] w fun e w' => ∃ v, e = .returned v ∧ Bats w' v H o N C n ∧ Kp w w' := by
  have HC := hide (cut_any H o N C n w hn hn2 hN hC hC2)
  go_enter Try.func11, Try.ntmps11
  go_wp2_with fail
  refine HC.out.mono ?_
  rintro e w1 ⟨v, rfl, hown, hk⟩
  have HB := hide (bats_of hown)
  have HK := hide hk
  clear hown hk HC
  go_wp2_with fail
  go_ret
  exact ⟨_, rfl, HB.out, HK.out⟩

theorem zz_any (H o N C n : Nat) (w : World) (hn : 1 ≤ n) (hn2 : n ≤ 9223372036854775807) (hN : N ≤ 131072) (hC : N ≤ C) (hC2 : C ≤ 131072) :
    Calls Try.prog 7 #[.int .i64 n, .slice (some ⟨H, o, none⟩) N C] w fun e w' => ∃ v, e = .returned v ∧ Bats w' v H o N C n ∧ Kp w w' := by
  go_enter Try.func7, Try.ntmps7
  go_wp2_with fail
  refine (kb_any w.heap.size H o N C n _ (by simp [go_sem]) hn hn2 hN hC hC2).mono ?_
  rintro e w1 ⟨v, rfl, hb, hk⟩
  have HB := hide hb
  have HK := hide (((Kp.refl w).alloc _).trans hk)
  clear hb hk
  go_wp2_with fail
  go_ret
  exact ⟨_, rfl, HB.out, HK.out⟩

set_option maxRecDepth 100000 in
theorem cut_zero (a : Option Addr) (c : Nat) (n : Int) (w : World) :
    Calls Try.prog 12 #[.slice a 0 c, .int .i64 n] w fun e w' => e = .returned (.slice none 0 0) ∧ w' = w := by
  go_enter Try.func12, Try.ntmps12
  go_wp2
  go_loop [0, 5] (fun ids v => ids = .slice a 0 c ∧ v = .slice none 0 0) (fun _ _ => 0)
  case atStart => exact ⟨rfl, rfl⟩
  case round =>
    obtain ⟨rfl, rfl⟩ := hrel
    go_wp2
    go_ret
    exact ⟨rfl, rfl⟩

theorem zz_zero (a : Option Addr) (c : Nat) (n : Int) (w : World) :
    Calls Try.prog 7 #[.int .i64 n, .slice a 0 c] w fun e w' => e = .returned (.slice none 0 0) ∧ Kp w w' := by
  go_enter Try.func7, Try.ntmps7
  go_wp2_with (first | (go_at_call 12; refine (cut_zero a c n _).mono ?_; rintro e w' ⟨rfl, hw⟩; subst hw) | go_in)
  go_ret
  exact ⟨rfl, (Kp.refl w).alloc _⟩

/-! ### eqInt64s -/
set_option maxHeartbeats 400000 in
theorem eq_any (H o H' o' N c c' : Nat) (z : Nat → Int) (w : World) (hN : N ≤ 131072) (h : ∀ i, i < N → w.cell? ⟨H, o + i, none⟩ = some (.int .i64 (z i))) (h' : ∀ i, i < N → w.cell? ⟨H', o' + i, none⟩ = some (.int .i64 (z i))) :
    Calls Try.prog 9 #[.slice (some ⟨H, o, none⟩) N c, .slice (some ⟨H', o', none⟩) N c'] w fun e w' => e = .returned (.bool true) ∧ ∃ m, w' = w.drewN m := by
  have HH := hide h
  have HH' := hide h'
  clear h h'
  go_enter Try.func9, Try.ntmps9
  go_wp2
  go_loopw [5] (fun i wr => ∃ k m : Nat, k ≤ N ∧ i = .int .i64 k ∧ wr = w.drewN m) (fun i _ => N - (intOf i).toNat)
  case atStart => exact ⟨0, 0, Nat.zero_le _, rfl, rfl⟩
  case round =>
    obtain ⟨k, m, hk, rfl, rfl⟩ := hrel
    by_cases hlt : k < N
    · have x1 := HH.out k hlt
      have x2 := HH'.out k hlt
      go_wp2
      go_quiet (fail)
      go_wp2
      go_roundw
      case rel => exact ⟨k + 1, _, by omega, by go_num, rfl⟩
      case measure => simp [intOf]; omega
    · go_wp2
      go_ret
      exact ⟨rfl, _, rfl⟩

end Go.Proofs.Qxb6613891a
