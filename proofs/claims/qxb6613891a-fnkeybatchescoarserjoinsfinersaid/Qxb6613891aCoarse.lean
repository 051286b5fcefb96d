import Derived.Test.Qxb6613891aPart
import Derived.Deep.CutBlock
import Derived.Deep.DeepCutAuto
namespace Go.Proofs.Qxb6613891a
open Go.RowKit

/-! ### the plain law -/
theorem eq_of_lt' {a b : Nat} (h : ∀ i, i < a ↔ i < b) : a = b := by
  have h1 := h a
  have h2 := h b
  omega
/-- ceil(N / (m n)) = ceil(ceil(N / n) / m). -/
theorem cnt_cnt (N n m : Nat) (hn : 1 ≤ n) (hm : 1 ≤ m) : cnt N (m * n) = (cnt N n + m - 1) / m := by
  have hmn : 1 ≤ m * n := Nat.mul_pos hm hn
  show cnt N (m * n) = cnt (cnt N n) m
  apply eq_of_lt'
  intro i
  rw [lt_cnt _ _ _ hmn, lt_cnt _ _ _ hm, lt_cnt _ _ _ hn, Nat.mul_assoc]

/-- What is known of coarse batch c. -/
structure Crs (N n m q F c cm base LC : Nat) : Prop where
  cmF : cm < F
  bN : base < N
  bn : base = cm * n
  LC : LC = min q (N - base)
  qn : q = m * n
  FN : ∀ i, i < F ↔ i * n < N

theorem crs_of (N n m c : Nat) (hn : 1 ≤ n) (hm : 1 ≤ m) (hc : c < cnt N (m * n)) : Crs N n m (m * n) (cnt N n) c (c * m) (c * (m * n)) (min (m * n) (N - c * (m * n))) := by
  have hmn : 1 ≤ m * n := Nat.mul_pos hm hn
  have h1 := (lt_cnt N (m * n) c hmn).1 hc
  refine ⟨(lt_cnt N n (c * m) hn).2 (by rw [Nat.mul_assoc]; exact h1), h1, (Nat.mul_assoc c m n).symm, rfl, rfl, fun i => lt_cnt N n i hn⟩

theorem Crs.end_ {N n m q F c cm base LC f : Nat} (h : Crs N n m q F c cm base LC) (h1 : cm ≤ f) (h2 : f ≤ F) (h3 : f ≤ cm + m) (h4 : ¬ (f < F ∧ f < cm + m)) : min (f * n) N - base = LC := by
  have e1 : (cm + m) * n = base + q := by rw [Nat.add_mul, h.bn, h.qn]
  by_cases e : f = cm + m
  · subst e
    rw [e1, h.LC]; omega
  · have : f = F := by omega
    subst this
    have h5 : ¬ f * n < N := fun k => by have := (h.FN f).2 k; omega
    have h6 : f * n ≤ (cm + m) * n := Nat.mul_le_mul_right n h3
    rw [e1] at h6
    rw [h.LC]; omega

/-- Within one fine batch. -/
theorem Crs.mid {N n m q F c cm base LC f fa : Nat} (h : Crs N n m q F c cm base LC) (h1 : cm ≤ f) (h2 : f < F) (h3 : f < cm + m) (hfa : fa = f * n) : base ≤ fa ∧ fa < N ∧ (∀ t, t < n → t < N - fa → fa - base + t < LC) ∧ (f + 1) * n = fa + n := by
  have e1 : (cm + m) * n = base + q := by rw [Nat.add_mul, h.bn, h.qn]
  have h4 : cm * n ≤ f * n := Nat.mul_le_mul_right n h1
  have h5 : (f + 1) * n ≤ (cm + m) * n := Nat.mul_le_mul_right n h3
  have h6 := (h.FN f).1 h2
  rw [Nat.succ_mul, e1] at h5
  rw [← h.bn, ← hfa] at h4
  rw [← hfa] at h5 h6
  refine ⟨h4, h6, fun t ht ht' => by rw [h.LC]; omega, by rw [Nat.succ_mul, hfa]⟩

/-- w' is w but for draws. -/
def Drw (w w' : World) : Prop := ∃ m, w' = w.drewN m
theorem Drw.refl (w : World) : Drw w w := ⟨0, rfl⟩
theorem Drw.drewN {w w' : World} (h : Drw w w') (n : Nat) : Drw w (w'.drewN n) := by
  obtain ⟨m, rfl⟩ := h
  exact ⟨m + n, by rw [World.drewN_drewN]⟩
theorem Drw.cell {w w' : World} (h : Drw w w') {p : Addr} {v : Value} (hc : w.cell? p = some v) : w'.cell? p = some v := by
  obtain ⟨m, rfl⟩ := h
  exact hc
theorem Drw.kp {w w' : World} (h : Drw w w') : Kp w w' := by
  obtain ⟨m, rfl⟩ := h
  exact (Kp.refl w).drewN m

set_option maxRecDepth 100000 in
set_option maxHeartbeats 2000000 in
theorem coarse_early (a : Option Addr) (N c : Nat) (n m : Int) (w : World) (hN : N ≤ maxLen) (h : 131072 < N ∨ n < 1 ∨ 16777216 < n ∨ m < 1 ∨ 64 < m) :
    Calls Try.prog 4 #[.int .i64 n, .int .i64 m, .slice a N c] w fun e w' => e = .returned (.bool true) ∧ Kp w w' := by
  have HB := hide (bytesC_any a N c n m w hN)
  unfold maxLen at hN
  by_cases h1 : 131072 < N
  · clear h
    go_enter Try.func4, Try.ntmps4
    go_wp2_with fail
    refine HB.out.mono ?_
    rintro e w0 ⟨⟨b, rfl⟩, hw0⟩
    obtain rfl : w = w0 := hw0.symm
    clear hw0 HB
    cases b <;> (go_wp2; go_ret; exact ⟨rfl, Kp.refl _⟩)
  by_cases h2 : n < 1
  · clear h
    go_enter Try.func4, Try.ntmps4
    go_wp2_with fail
    refine HB.out.mono ?_
    rintro e w0 ⟨⟨b, rfl⟩, hw0⟩
    obtain rfl : w = w0 := hw0.symm
    clear hw0 HB
    cases b <;> (go_wp2; go_ret; exact ⟨rfl, Kp.refl _⟩)
  by_cases h3 : 16777216 < n
  · clear h
    go_enter Try.func4, Try.ntmps4
    go_wp2_with fail
    refine HB.out.mono ?_
    rintro e w0 ⟨⟨b, rfl⟩, hw0⟩
    obtain rfl : w = w0 := hw0.symm
    clear hw0 HB
    cases b <;> (go_wp2; go_ret; exact ⟨rfl, Kp.refl _⟩)
  by_cases h4 : m < 1
  · clear h
    go_enter Try.func4, Try.ntmps4
    go_wp2_with fail
    refine HB.out.mono ?_
    rintro e w0 ⟨⟨b, rfl⟩, hw0⟩
    obtain rfl : w = w0 := hw0.symm
    clear hw0 HB
    cases b <;> (go_wp2; go_ret; exact ⟨rfl, Kp.refl _⟩)
  have h5 : 64 < m := by omega
  clear h
  go_enter Try.func4, Try.ntmps4
  go_wp2_with fail
  refine HB.out.mono ?_
  rintro e w0 ⟨⟨b, rfl⟩, hw0⟩
  obtain rfl : w = w0 := hw0.symm
  clear hw0 HB
  cases b <;> (go_wp2; go_ret; exact ⟨rfl, Kp.refl _⟩)

set_option maxRecDepth 100000 in
set_option maxHeartbeats 4000000 in
theorem coarse_some (x : Addr) (N c n m : Nat) (z : Nat → Int) (w : World) (hN : N ≤ 131072) (hn : 1 ≤ n) (hn2 : n ≤ 16777216) (hm : 1 ≤ m) (hm2 : m ≤ 64) (h : RawI w (some x) N z) :
    Calls Try.prog 4 #[.int .i64 n, .int .i64 m, .slice (some x) N c] w fun e w' => e = .returned (.bool true) ∧ Kp w w' := by
  have HB := hide (bytesC_any (some x) N c n m w (by unfold maxLen; omega))
  have HR := hide h
  clear h
  obtain ⟨q, hq⟩ : ∃ q, q = m * n := ⟨_, rfl⟩
  have hq2 : q ≤ 64 * 16777216 := by rw [hq]; exact Nat.mul_le_mul hm2 hn2
  have hq1 : 1 ≤ q := by rw [hq]; exact Nat.mul_pos hm hn
  have hmn : (m : Int) * (n : Int) = (q : Int) := by rw [hq]; exact (Int.natCast_mul m n).symm
  have HQ := hide hq
  clear hq
  go_enter Try.func4, Try.ntmps4
  go_wp2_with fail
  refine HB.out.mono ?_
  rintro e w0 ⟨⟨b, rfl⟩, hw0⟩
  obtain rfl : w = w0 := hw0.symm
  clear hw0 HB
  cases b
  · go_wp2; go_ret; exact ⟨rfl, Kp.refl _⟩
  · go_wp2_with fail
    refine (clone_any x N c z w hN HR.out).mono ?_
    rintro e w1 ⟨rfl, hz, hk⟩
    have HZ := hide hz
    have HK := hide hk
    clear hz hk HR
    generalize w.heap.size = H at *
    go_wp2_with fail
    refine (zz_any H 0 N N n _ hn (by omega) hN (Nat.le_refl _) hN).mono ?_
    rintro e w2 ⟨v1, rfl, hB, hk2⟩
    have HB1 := hide hB
    have HK2 := hide (HK.out.trans hk2)
    have HZ2 : Hid (∀ i, i < N → w2.cell? ⟨H, i, none⟩ = some (.int .i64 (z i))) := fun i hi => hk2.cell (HZ.out i hi)
    clear hB hk2 HK HZ
    go_wp2_with fail
    refine (zz_any H 0 N N q _ hq1 (by omega) hN (Nat.le_refl _) hN).mono ?_
    rintro e w3 ⟨v2, rfl, hB2, hk3⟩
    obtain ⟨a1, c1, hv1, hb1⟩ := HB1.out.kp hk3
    obtain ⟨a2, c2, hv2, hb2⟩ := hB2
    subst hv1 hv2
    have P1 : Hid (Bats w3 (.slice a1 (cnt N n) c1) H 0 N N n) := ⟨a1, c1, rfl, hb1⟩
    have X1 := hide hb1
    have X2 := hide hb2
    have HK3 := hide (HK2.out.trans hk3)
    have HZ3 : Hid (∀ i, i < N → w3.cell? ⟨H, i, none⟩ = some (.int .i64 (z i))) := fun i hi => hk3.cell (HZ2.out i hi)
    have hcc : cnt N q = (cnt N n + m - 1) / m := by rw [HQ.out]; exact cnt_cnt N n m hn hm
    have hF := cnt_le N n hn
    have hC := cnt_le N q hq1
    have CR : Hid (∀ i, i < cnt N q → Crs N n m q (cnt N n) i (i * m) (i * q) (min q (N - i * q))) := fun i hi => by
      rw [HQ.out] at hi ⊢
      exact crs_of N n m i hn hm hi
    clear hb1 hb2 hk3 HK2 HZ2 HB1
    generalize cnt N n = F at *
    generalize cnt N q = Cc at *
    have hdiv : ((F : Int) + (m : Int) - 1) / (m : Int) = (Cc : Int) := by
      rw [hcc, Int.natCast_ediv]; congr 1; omega
    have HCC := hide hcc
    clear hcc
    go_wp2_with fail
    refine (part_any H N N N n _ z w3 hn (by omega) hN P1.out HZ3.out).mono ?_
    rintro e w5 ⟨rfl, hd5⟩
    have HD5 : Hid (Drw w3 w5) := hd5
    clear P1 hd5
    go_wp2_with fail
    clear hdiv hmn
    go_loopw [9] (fun i wr => ∃ k : Nat, k ≤ Cc ∧ i = .int .i64 k ∧ Drw w3 wr) (fun i _ => Cc - (intOf i).toNat)
    case atStart => exact ⟨0, Nat.zero_le _, rfl, HD5.out⟩
    case round =>
      obtain ⟨k, hk, rfl, hd⟩ := hrel
      have HD := hide hd
      clear hd HD5
      by_cases hlt : k < Cc
      · obtain ⟨g2, e2, y2⟩ := X2.out k hlt
        subst e2
        have hcr := CR.out k hlt
        have hy : bat H 0 N N q k = .slice (some ⟨H, k * q, none⟩) (min q (N - k * q)) (N - k * q) := by unfold bat; rw [Nat.zero_add]
        rw [hy] at y2
        have hcm : (k : Int) * (m : Int) = ((k * m : Nat) : Int) := (Int.natCast_mul k m).symm
        generalize min q (N - k * q) = LC at *
        generalize k * q = base at *
        generalize k * m = cm at *
        have i1 := hcr.cmF
        have i2 := hcr.bN
        have i3 : LC ≤ N - base := by rw [hcr.LC]; omega
        have HCR := hide hcr
        have HY2 := hide y2
        clear hy hcr CR X2 y2
        have d0 : decide ((k : Int) < (Cc : Int)) = true := by simp; omega
        go_wp2_with fail
        go_loopw [10, 11] (fun pos i wr => ∃ f ps : Nat, cm ≤ f ∧ f ≤ F ∧ f ≤ cm + m ∧ i = .int .i64 f ∧ pos = .int .i64 ps ∧ Hid (ps = min (f * n) N - base) ∧ Drw w3 wr) (fun _ i _ => F - (intOf i).toNat)
        case atStart => exact ⟨cm, 0, Nat.le_refl _, by omega, by omega, rfl, rfl, by show 0 = min (cm * n) N - base; rw [← HCR.out.bn]; omega, HD.out⟩
        case round =>
          obtain ⟨f, ps, hf1, hf2, hf3, rfl, rfl, hps, hd⟩ := hrel
          clear HD
          have HD := hide hd
          clear hd
          have y2 := HD.out.cell HY2.out
          by_cases hfF : f < F
          · by_cases hfm : f < cm + m
            · obtain ⟨g1, e1, y1⟩ := X1.out f hfF
              subst e1
              obtain ⟨fa, hfa⟩ : ∃ fa, fa = f * n := ⟨_, rfl⟩
              obtain ⟨j1, j2, j3, j4⟩ := HCR.out.mid hf1 hfF hfm hfa
              have hy : bat H 0 N N n f = .slice (some ⟨H, fa, none⟩) (min n (N - fa)) (N - fa) := by unfold bat; rw [Nat.zero_add, hfa]
              rw [hy] at y1
              obtain ⟨LF, hLF⟩ : ∃ LF, LF = min n (N - fa) := ⟨_, rfl⟩
              rw [← hLF] at y1
              have y1' := HD.out.cell y1
              have hps2 : ps = fa - base := by rw [hps.out, ← hfa]; omega
              have l1 : LF ≤ n := by omega
              have l2 : LF ≤ N - fa := by omega
              have J3 : Hid (∀ t, t < LF → ps + t < LC) := fun t ht => by rw [hps2]; exact j3 t (by omega) (by omega)
              have J4 : Hid (ps + LF = min ((f + 1) * n) N - base) := by show ps + LF = _; rw [j4, hps2, hLF]; omega
              have J5 : Hid (∀ t, base + (ps + t) = fa + t) := fun t => by omega
              have Y1 := hide y1
              clear hps j3 j4 hy hLF hps2 hfa y1 X1
              have d1 : decide ((f : Int) < (F : Int)) = true := by simp; omega
              have d2 : decide ((f : Int) < (cm : Int) + (m : Int)) = true := by simp; omega
              go_wp2_with fail
              go_loopg [10, 12] LF (fun g pos i wr => ∃ t pt : Nat, t ≤ LF ∧ g = LF - t ∧ i = .int .i64 t ∧ pos = .int .i64 pt ∧ Hid (pt = ps + t) ∧ Drw w3 wr)
              case atStart => exact ⟨0, ps, Nat.zero_le _, rfl, rfl, rfl, rfl, HD.out⟩
              case round =>
                obtain ⟨t, pt, ht, rfl, rfl, rfl, hpt, hd⟩ := hrel
                clear HD y2 y1'
                have HD := hide hd
                clear hd
                have y1 := HD.out.cell Y1.out
                have y2 := HD.out.cell HY2.out
                by_cases htl : t < LF
                · have b1 : pt < LC := by rw [hpt.out]; exact J3.out t htl
                  have v2 := HD.out.cell (HZ3.out (fa + t) (by omega))
                  have v1 : wr.cell? ⟨H, base + pt, none⟩ = some (.int .i64 (z (fa + t))) := by rw [hpt.out, J5.out]; exact v2
                  have hg : decide ((LC : Int) ≤ (pt : Int)) = false := by simp; omega
                  go_wp2
                  go_quiet (fail)
                  go_wp2
                  have HPT : Hid (pt + 1 = ps + (t + 1)) := by show pt + 1 = ps + (t + 1); rw [hpt.out]; omega
                  go_roundg (LF - (t + 1))
                  case measure => go_light; omega
                  case rel => exact ⟨t + 1, pt + 1, by omega, rfl, by go_num, by go_num, HPT, HD.out.drewN _⟩
                · have : t = LF := by omega
                  subst this
                  have bpt : pt ≤ N := by rw [hpt.out, J4.out]; omega
                  go_wp2
                  go_roundw
                  case rel => exact ⟨f + 1, pt, by omega, by omega, by omega, by go_num, rfl, hpt.out.trans J4.out, HD.out⟩
                  case measure => simp [intOf]; omega
            · have hpe : ps = LC := hps.out.trans (HCR.out.end_ hf1 hf2 hf3 (fun h => hfm h.2))
              subst hpe
              clear hps
              go_wp2
              go_roundw
              case rel => exact ⟨k + 1, by omega, by go_num, HD.out⟩
              case measure => simp [intOf]; omega
          · have hpe : ps = LC := hps.out.trans (HCR.out.end_ hf1 hf2 hf3 (fun h => hfF h.1))
            subst hpe
            clear hps
            go_wp2
            go_roundw
            case rel => exact ⟨k + 1, by omega, by go_num, HD.out⟩
            case measure => simp [intOf]; omega
      · go_wp2
        go_ret
        exact ⟨rfl, HK3.out.trans HD.out.kp⟩

end Go.Proofs.Qxb6613891a
