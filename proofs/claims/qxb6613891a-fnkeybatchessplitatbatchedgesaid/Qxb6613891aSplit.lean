import Derived.Test.Qxb6613891aPart
import Derived.Deep.CutBlock
import Derived.Deep.DeepCutAuto
import Derived.Deep.RegionHeld3
namespace Go.Proofs.Qxb6613891a
open Go.RowKit

set_option maxRecDepth 100000 in
set_option maxHeartbeats 2000000 in
theorem split_early (a : Option Addr) (N c : Nat) (n k : Int) (w : World) (hN : N ≤ maxLen) (h : 131072 < N ∨ n < 1 ∨ k < 0) :
    Calls Try.prog 3 #[.int .i64 n, .slice a N c, .int .i64 k] w fun e w' => e = .returned (.bool true) ∧ Kp w w' := by
  have HB := hide (bytesS_any a N c n k w hN)
  unfold maxLen at hN
  by_cases h1 : 131072 < N
  · clear h
    go_enter Try.func3, Try.ntmps3
    go_wp2_with fail
    refine HB.out.mono ?_
    rintro e w0 ⟨⟨b, rfl⟩, hw0⟩
    obtain rfl : w = w0 := hw0.symm
    clear hw0 HB
    cases b <;> (go_wp2; go_ret; exact ⟨rfl, Kp.refl _⟩)
  · by_cases h2 : n < 1
    · clear h
      go_enter Try.func3, Try.ntmps3
      go_wp2_with fail
      refine HB.out.mono ?_
      rintro e w0 ⟨⟨b, rfl⟩, hw0⟩
      obtain rfl : w = w0 := hw0.symm
      clear hw0 HB
      cases b <;> (go_wp2; go_ret; exact ⟨rfl, Kp.refl _⟩)
    · have h3 : k < 0 := by omega
      clear h
      go_enter Try.func3, Try.ntmps3
      go_wp2_with fail
      refine HB.out.mono ?_
      rintro e w0 ⟨⟨b, rfl⟩, hw0⟩
      obtain rfl : w = w0 := hw0.symm
      clear hw0 HB
      cases b <;> (go_wp2; go_ret; exact ⟨rfl, Kp.refl _⟩)

/-- Where the ids are cut: at their end, or at a batch's edge ahead of it. -/
def Cutting (N n cut : Nat) : Prop := cut = N ∨ (cut < N ∧ ∃ k, cut = k * n)

theorem mul_of_test (N n k : Nat) (hN : N ≤ 131072) (hn : 1 ≤ n) (h : (k : Int) ≤ wrap64 ((N : Int) / (n : Int))) : k * n ≤ N ∧ wrap64 ((k : Int) * (n : Int)) = ((k * n : Nat) : Int) := by
  have e1 : (N : Int) / (n : Int) = ((N / n : Nat) : Int) := by simp
  have h1 : N / n ≤ N := Nat.div_le_self N n
  rw [e1] at h
  have h2 : wrap64 ((N / n : Nat) : Int) = ((N / n : Nat) : Int) := by
    generalize N / n = q at *
    unfold wrap64; omega
  rw [h2] at h
  have h3 : k ≤ N / n := by omega
  have h4 : k * n ≤ N := (Nat.le_div_iff_mul_le (by omega)).1 h3
  refine ⟨h4, ?_⟩
  rw [← Int.natCast_mul]
  generalize k * n = q at *
  unfold wrap64; omega

theorem cut_of (N n k : Nat) (h : k * n ≤ N) : Cutting N n (k * n) := by
  by_cases e : k * n = N
  · exact .inl e
  · exact .inr ⟨by omega, k, rfl⟩

/-! ### the plain law: the counts add up; the batches agree -/
theorem eq_of_lt {a b : Nat} (h : ∀ i, i < a ↔ i < b) : a = b := by
  have h1 := h a
  have h2 := h b
  omega
theorem cnt_mul (k n : Nat) (hn : 1 ≤ n) : cnt (k * n) n = k := by
  apply eq_of_lt
  intro i
  rw [lt_cnt _ _ _ hn]
  constructor
  · intro h
    exact Nat.lt_of_mul_lt_mul_right h
  · intro h
    exact Nat.mul_lt_mul_of_pos_right h hn
theorem cnt_split (N n cut : Nat) (hn : 1 ≤ n) (h : Cutting N n cut) : cnt N n = cnt cut n + cnt (N - cut) n := by
  rcases h with rfl | ⟨hlt, k, rfl⟩
  · rw [Nat.sub_self, cnt_zero n hn]; rfl
  · rw [cnt_mul k n hn]
    have hk : k < cnt N n := (lt_cnt N n k hn).2 hlt
    have : cnt (N - k * n) n = cnt N n - k := by
      apply eq_of_lt
      intro i
      rw [lt_cnt _ _ _ hn]
      have h2 := lt_cnt N n (k + i) hn
      have e : (k + i) * n = k * n + i * n := Nat.add_mul k i n
      rw [e] at h2
      omega
    omega

/-- Batch i of the left part is batch i of the whole. -/
theorem bat_left (H N n cut i : Nat) (hn : 1 ≤ n) (h : Cutting N n cut) (hi : i < cnt cut n) :
    ∃ A l c c', bat H 0 N N n i = .slice (some ⟨H, A, none⟩) l c ∧ bat H 0 cut N n i = .slice (some ⟨H, A, none⟩) l c' ∧ A + l ≤ N := by
  have hi2 := (lt_cnt cut n i hn).1 hi
  unfold bat
  rcases h with rfl | ⟨hlt, k, rfl⟩
  · exact ⟨_, _, _, _, rfl, rfl, by omega⟩
  · have hik : i + 1 ≤ k := by
      rw [cnt_mul k n hn] at hi; exact hi
    have h2 : (i + 1) * n ≤ k * n := Nat.mul_le_mul_right n hik
    rw [Nat.succ_mul] at h2
    refine ⟨0 + i * n, n, N - i * n, N - i * n, ?_, ?_, by omega⟩
    · rw [Nat.min_eq_left (by omega)]
    · rw [Nat.min_eq_left (by omega)]

/-- Batch i of the right part is batch i of the whole behind the left part's. -/
theorem bat_right (H N n cut i : Nat) (hn : 1 ≤ n) (h : Cutting N n cut) (hi : i < cnt (N - cut) n) :
    ∃ A l c c', bat H 0 N N n (cnt cut n + i) = .slice (some ⟨H, A, none⟩) l c ∧ bat H cut (N - cut) (N - cut) n i = .slice (some ⟨H, A, none⟩) l c' ∧ A + l ≤ N := by
  have hi2 := (lt_cnt (N - cut) n i hn).1 hi
  unfold bat
  rcases h with rfl | ⟨hlt, k, rfl⟩
  · omega
  · rw [cnt_mul k n hn, Nat.add_mul, Nat.sub_add_eq]
    refine ⟨k * n + i * n, min n (N - k * n - i * n), N - k * n - i * n, N - k * n - i * n, ?_, rfl, by omega⟩
    rw [Nat.zero_add]

/-- w' is w but for draws. -/
def Drawn (w w' : World) : Prop := ∃ m, w' = w.drewN m
theorem Drawn.refl (w : World) : Drawn w w := ⟨0, rfl⟩
theorem Drawn.drewN {w w' : World} (h : Drawn w w') (n : Nat) : Drawn w (w'.drewN n) := by
  obtain ⟨m, rfl⟩ := h
  exact ⟨m + n, by rw [World.drewN_drewN]⟩
theorem Drawn.cell {w w' : World} (h : Drawn w w') {p : Addr} {v : Value} (hc : w.cell? p = some v) : w'.cell? p = some v := by
  obtain ⟨m, rfl⟩ := h
  exact hc
theorem Drawn.kp {w w' : World} (h : Drawn w w') : Kp w w' := by
  obtain ⟨m, rfl⟩ := h
  exact (Kp.refl w).drewN m

theorem bats_zero (w : World) (H o C n : Nat) (hn : 1 ≤ n) : Bats w (.slice none 0 0) H o 0 C n :=
  ⟨none, 0, by rw [cnt_zero n hn], fun i hi => absurd hi (by rw [cnt_zero n hn]; omega)⟩

set_option maxRecDepth 100000 in
set_option maxHeartbeats 4000000 in
theorem split_some (x : Addr) (N c n k : Nat) (z : Nat → Int) (w : World) (hN : N ≤ 131072) (hn : 1 ≤ n) (hn2 : n ≤ 9223372036854775807) (hk2 : k ≤ 9223372036854775807) (h : RawI w (some x) N z) :
    Calls Try.prog 3 #[.int .i64 n, .slice (some x) N c, .int .i64 k] w fun e w' => e = .returned (.bool true) ∧ Kp w w' := by
  have HB := hide (bytesS_any (some x) N c n k w (by unfold maxLen; omega))
  have HR := hide h
  clear h
  go_enter Try.func3, Try.ntmps3
  go_wp2_with fail
  refine HB.out.mono ?_
  rintro e w0 ⟨⟨b, rfl⟩, hw0⟩
  obtain rfl : w = w0 := hw0.symm
  clear hw0 HB
  cases b
  · go_wp2; go_ret; exact ⟨rfl, Kp.refl _⟩
  · go_wp2_with fail
    refine (clone_any x N c z w hN HR.out).mono ?_
    rintro e w1 ⟨rfl, hz, hk⟩
    have HZ := hide hz
    have HK := hide hk
    clear hz hk HR
    generalize w.heap.size = H at *
    go_upto_if 36 with fail
    go_cut [7] (fun v wc => ∃ cut : Nat, v = .int .i64 cut ∧ wc = w1 ∧ Cutting N n cut)
    case first =>
      go_wp2
      · have ht : (k : Int) ≤ wrap64 ((N : Int) / (n : Int)) := by assumption
        obtain ⟨m1, m2⟩ := mul_of_test N n k hN hn ht
        have M2 := hide m2
        clear ht m2
        go_meet
        case rel => exact ⟨k * n, by rw [M2.out], rfl, cut_of N n k m1⟩
      · go_meet
        case rel => exact ⟨N, rfl, rfl, .inl rfl⟩
    case rest =>
      obtain ⟨cut, rfl, hw1, hcut⟩ := hcut
      subst hw1
      have HC := hide hcut
      have hcl : cut ≤ N := by rcases hcut with e | ⟨e, _⟩ <;> omega
      clear hcut
      go_wp2_with fail
      refine (zz_any H 0 N N n _ hn hn2 hN (Nat.le_refl _) hN).mono ?_
      rintro e w2 ⟨v1, rfl, hB, hk2⟩
      have HB1 := hide hB
      have HK2 := hide (HK.out.trans hk2)
      have HZ2 : Hid (∀ i, i < N → w2.cell? ⟨H, i, none⟩ = some (.int .i64 (z i))) := fun i hi => hk2.cell (HZ.out i hi)
      clear hB hk2 HK HZ
      go_wp2_with fail
      refine (zz_any H 0 cut N n _ hn hn2 (by omega) hcl hN).mono ?_
      rintro e w3 ⟨v2, rfl, hB, hk3⟩
      have HB2 := hide hB
      have HB1' := hide (HB1.out.kp hk3)
      have HK3 := hide (HK2.out.trans hk3)
      have HZ3 : Hid (∀ i, i < N → w3.cell? ⟨H, i, none⟩ = some (.int .i64 (z i))) := fun i hi => hk3.cell (HZ2.out i hi)
      clear hB hk3 HB1 HK2 HZ2
      go_upto_region 13 with fail
      go_cut [10] (fun v wc => Bats wc v H cut (N - cut) (N - cut) n ∧ Kp w3 wc)
      case first =>
        by_cases heq : cut = N
        · subst heq
          go_wp2_with fail
          refine (zz_zero _ _ _ _).mono ?_
          rintro e w4 ⟨rfl, hk4⟩
          have HK4 := hide hk4
          clear hk4
          go_wp2_with fail
          go_meet
          case rel => exact ⟨by rw [Nat.sub_self]; exact bats_zero _ _ _ _ _ hn, HK4.out⟩
        · have hcl2 : cut < N := by omega
          clear heq
          go_wp2_with fail
          refine (zz_any H cut (N - cut) (N - cut) n _ hn hn2 (by omega) (Nat.le_refl _) (by omega)).mono ?_
          rintro e w4 ⟨v3, rfl, hB, hk4⟩
          have HB4 := hide hB
          have HK4 := hide hk4
          clear hB hk4
          go_wp2_with fail
          go_meet
          case rel => exact ⟨HB4.out, HK4.out⟩
      case rest =>
        obtain ⟨wb, hwb⟩ : ∃ wb, wb = wc := ⟨_, rfl⟩
        subst hwb
        obtain ⟨hB3, hk4⟩ := hcut
        obtain ⟨a1, c1, rfl, hb1⟩ := HB1'.out.kp hk4
        obtain ⟨a2, c2, rfl, hb2⟩ := HB2.out.kp hk4
        obtain ⟨a3, c3, hv3, hb3⟩ := hB3
        subst hv3
        have P1 : Hid (Bats wb (.slice a1 (cnt N n) c1) H 0 N N n) := ⟨a1, c1, rfl, hb1⟩
        have X1 := hide hb1
        have X2 := hide hb2
        have X3 := hide hb3
        have HK4 := hide (HK3.out.trans hk4)
        have HZ4 : Hid (∀ i, i < N → wb.cell? ⟨H, i, none⟩ = some (.int .i64 (z i))) := fun i hi => hk4.cell (HZ3.out i hi)
        have hsum := cnt_split N n cut hn HC.out
        have hle := cnt_le N n hn
        have BL := hide (fun i hi => bat_left H N n cut i hn HC.out hi)
        have BR := hide (fun i hi => bat_right H N n cut i hn HC.out hi)
        clear hb1 hb2 hb3 hk4 HK3 HZ3 HB1' HB2
        generalize cnt N n = cW at *
        generalize cnt cut n = cL at *
        generalize cnt (N - cut) n = cR at *
        subst hsum
        go_wp2_with fail
        refine (part_any H N N N n _ z wb hn hn2 hN P1.out HZ4.out).mono ?_
        rintro e w5 ⟨rfl, hd5⟩
        have HD5 : Hid (Drawn wb w5) := hd5
        clear P1 hd5
        go_upto_block 0 with fail
        go_cut [] (fun wd => Drawn wb wd)
        case first =>
          go_wp2_with fail
          go_loopw [11] (fun i wr => ∃ k : Nat, k ≤ cL ∧ i = .int .i64 k ∧ Drawn wb wr) (fun i _ => cL - (intOf i).toNat)
          case atStart => exact ⟨0, Nat.zero_le _, rfl, HD5.out⟩
          case round =>
            obtain ⟨i, hi, rfl, hd⟩ := hrel
            have HD := hide hd
            clear hd
            by_cases hlt : i < cL
            · obtain ⟨g1, e1, y1⟩ := X1.out i (by omega)
              obtain ⟨g2, e2, y2⟩ := X2.out i hlt
              subst e1 e2
              obtain ⟨A, l, ca, cb, q1, q2, q3⟩ := BL.out i hlt
              rw [q1] at y1
              rw [q2] at y2
              replace y1 := HD.out.cell y1
              replace y2 := HD.out.cell y2
              clear q1 q2 X1 X2 X3 BL BR
              have b0 : (0 : Int) ≤ (i : Int) := by omega
              have b1 : (i : Int) < (cL : Int) + (cR : Int) := by omega
              have b2 : (i : Int) < (cL : Int) := by omega
              have b3 : i < cL + cR := by omega
              go_wp2_with fail
              go_quiet ((go_at_call 9; (exact Calls.quiet_of (eq_any H A H A l ca cb (fun i => z (A + i)) _ (by omega) (fun i hi => HD.out.cell (HZ4.out (A + i) (by omega))) (fun i hi => HD.out.cell (HZ4.out (A + i) (by omega)))))))
              go_wp2
              go_roundw
              case rel => exact ⟨i + 1, by omega, by go_num, HD.out.drewN _⟩
              case measure => simp [intOf]; omega
            · go_wp2
              go_meet
              case rel => exact HD.out
        case rest =>
          have HD6 := hide hcut
          clear hcut HD5
          go_wp2_with fail
          go_loopw [12] (fun i wr => ∃ k : Nat, k ≤ cR ∧ i = .int .i64 k ∧ Drawn wb wr) (fun i _ => cR - (intOf i).toNat)
          case atStart => exact ⟨0, Nat.zero_le _, rfl, HD6.out⟩
          case round =>
            obtain ⟨i, hi, rfl, hd⟩ := hrel
            have HD := hide hd
            clear hd
            by_cases hlt : i < cR
            · obtain ⟨g1, e1, y1⟩ := X1.out (cL + i) (by omega)
              obtain ⟨g3, e3, y3⟩ := X3.out i hlt
              subst e1 e3
              obtain ⟨A, l, ca, cb, q1, q2, q3⟩ := BR.out i hlt
              rw [q1] at y1
              rw [q2] at y3
              replace y1 := HD.out.cell y1
              replace y3 := HD.out.cell y3
              clear q1 q2 X1 X2 X3 BL BR
              have b0 : (0 : Int) ≤ (i : Int) := by omega
              have b1 : (cL : Int) + (i : Int) < (cL : Int) + (cR : Int) := by omega
              have b2 : (i : Int) < (cR : Int) := by omega
              have b3 : cL + i < cL + cR := by omega
              have b4 : (0 : Int) ≤ (cL : Int) + (i : Int) := by omega
              go_wp2_with fail
              go_quiet ((go_at_call 9; (exact Calls.quiet_of (eq_any H A H A l ca cb (fun i => z (A + i)) _ (by omega) (fun i hi => HD.out.cell (HZ4.out (A + i) (by omega))) (fun i hi => HD.out.cell (HZ4.out (A + i) (by omega)))))))
              go_wp2
              go_roundw
              case rel => exact ⟨i + 1, by omega, by go_num, HD.out.drewN _⟩
              case measure => simp [intOf]; omega
            · go_wp2
              go_ret
              exact ⟨rfl, HK4.out.trans HD.out.kp⟩

end Go.Proofs.Qxb6613891a
