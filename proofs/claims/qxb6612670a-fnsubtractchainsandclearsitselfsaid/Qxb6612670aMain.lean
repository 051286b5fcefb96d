import Derived.Test.Qxb6612670aLeaf
namespace Go.Proofs.Qxb6612670a
open Go.RowKit

/-! ### the plain law -/
theorem chain (c d e : Int) : wrap64 (wrap64 (c - d) - e) = wrap64 (c - wrap64 (d + e)) := by
  unfold wrap64; omega
theorem self (c : Int) : wrap64 (c - c) = 0 := by
  unfold wrap64; omega

theorem below_grown {w a b : World} {row : Option Nat} (h : Below w.heap.size w a) (g : a.grownBy b row) (hr : ∀ k, row = some k → w.heap.size ≤ k) : Below w.heap.size w b := h.grown g h.size hr

set_option maxHeartbeats 1000000 in
theorem main_any (a0 a1 a2 a3 a4 a5 : Int) (w : World) :
    Calls Try.prog 3 #[.int .i64 a0, .int .i64 a1, .int .i64 a2, .int .i64 a3, .int .i64 a4, .int .i64 a5] w fun e w' => e = .returned (.bool true) ∧ Below w.heap.size w w' := by
  go_enter Try.func3, Try.ntmps3
  go_wp2_with fail
  refine (new_any a0 a1 w).mono ?_
  rintro e w1 ⟨b, rfl, pb, hb, g1⟩
  have B1 := hide (below_grown (Below.refl _ w) g1 (fun k e => by cases e))
  have PB := hide pb
  have HB := hide hb
  clear pb hb g1
  go_wp2_with fail
  refine (new_any a2 a3 w1).mono ?_
  rintro e w2 ⟨d, rfl, pd, hd, g2⟩
  have PB2 := hide (PB.out.keep g2 (by simp))
  have B2 := hide (below_grown B1.out g2 (fun k e => by cases e))
  have PD := hide pd
  clear pd hd g2 PB B1
  go_wp2_with fail
  refine (zsub_any b d a0 a1 a2 a3 w2 PB2.out PD.out).mono ?_
  rintro e w3 ⟨rfl, pb, g3⟩
  have PB3 := hide pb
  have B3 := hide (below_grown B2.out g3 (fun k e => by cases e; exact HB.out))
  clear pb g3 PB2 PD B2
  go_wp2_with fail
  refine (new_any a4 a5 w3).mono ?_
  rintro e w4 ⟨d2, rfl, pd, hd, g4⟩
  have PB4 := hide (PB3.out.keep g4 (by simp))
  have B4 := hide (below_grown B3.out g4 (fun k e => by cases e))
  have PD := hide pd
  clear pd hd g4 PB3 B3
  go_wp2_with fail
  refine (zsub_any b d2 _ _ a4 a5 w4 PB4.out PD.out).mono ?_
  rintro e w5 ⟨rfl, pb, g5⟩
  have PB5 := hide pb
  have B5 := hide (below_grown B4.out g5 (fun k e => by cases e; exact HB.out))
  clear pb g5 PB4 PD B4
  go_wp2_with fail
  refine (new_any a0 a1 w5).mono ?_
  rintro e w6 ⟨o, rfl, po, ho, g6⟩
  have PB6 := hide (PB5.out.keep g6 (by simp))
  have B6 := hide (below_grown B5.out g6 (fun k e => by cases e))
  have PO := hide po
  have NO : Hid (o ≠ b) := by have := PB5.out.lt; intro e; omega
  have HO : Hid (w.heap.size ≤ o) := Nat.le_trans B5.out.size ho
  clear po ho g6 PB5 B5
  go_wp2_with fail
  refine (new_any _ _ w6).mono ?_
  rintro e w7 ⟨s, rfl, ps, hs, g7⟩
  have PB7 := hide (PB6.out.keep g7 (by simp))
  have PO7 := hide (PO.out.keep g7 (by simp))
  have B7 := hide (below_grown B6.out g7 (fun k e => by cases e))
  have PS := hide ps
  clear ps hs g7 PB6 PO B6
  go_wp2_with fail
  refine (zsub_any o s a0 a1 _ _ w7 PO7.out PS.out).mono ?_
  rintro e w8 ⟨rfl, po, g8⟩
  have PB8 := hide (PB7.out.keep g8 (fun e => NO.out (Option.some.inj e).symm))
  have PO8 := hide po
  have B8 := hide (below_grown B7.out g8 (fun k e => by cases e; exact HO.out))
  clear po g8 PB7 PO7 PS B7
  go_wp2_with fail
  refine (new_any a0 a1 w8).mono ?_
  rintro e w9 ⟨f, rfl, pf, hf, g9⟩
  have PB9 := hide (PB8.out.keep g9 (by simp))
  have PO9 := hide (PO8.out.keep g9 (by simp))
  have B9 := hide (below_grown B8.out g9 (fun k e => by cases e))
  have PF := hide pf
  have NF : Hid (f ≠ b ∧ f ≠ o) := ⟨by have := PB8.out.lt; intro e; omega, by have := PO8.out.lt; intro e; omega⟩
  have HF : Hid (w.heap.size ≤ f) := Nat.le_trans B8.out.size hf
  clear pf hf g9 PB8 PO8 B8
  go_wp2_with fail
  refine (zsub_any f f a0 a1 a0 a1 w9 PF.out PF.out).mono ?_
  rintro e w10 ⟨rfl, pf, g10⟩
  rw [self, self] at pf
  have PB10 := hide (PB9.out.keep g10 (fun e => NF.out.1 (Option.some.inj e).symm))
  have PO10 := hide (PO9.out.keep g10 (fun e => NF.out.2 (Option.some.inj e).symm))
  have PF10 := hide pf
  have B10 := hide (below_grown B9.out g10 (fun k e => by cases e; exact HF.out))
  clear pf g10 PB9 PO9 PF B9
  have ch0 := chain a0 a2 a4
  have ch1 := chain a1 a3 a5
  rw [ch0, ch1] at PB10
  clear ch0 ch1
  generalize wrap64 (a0 - wrap64 (a2 + a4)) = r0 at PB10 PO10
  generalize wrap64 (a1 - wrap64 (a3 + a5)) = r1 at PB10 PO10
  go_wp2_with fail
  refine (fields_any b r0 r1 w10 PB10.out).mono ?_
  rintro e w11 ⟨rfl, g11⟩
  have PO11 := hide (PO10.out.keep g11 (by simp))
  have PF11 := hide (PF10.out.keep g11 (by simp))
  have B11 := hide (below_grown B10.out g11 (fun k e => by cases e))
  clear g11 PB10 PO10 PF10 B10
  go_wp2_with fail
  refine (fields_any o r0 r1 w11 PO11.out).mono ?_
  rintro e w12 ⟨rfl, g12⟩
  have PF12 := hide (PF11.out.keep g12 (by simp))
  have B12 := hide (below_grown B11.out g12 (fun k e => by cases e))
  clear g12 PO11 PF11 B11
  go_wp2_with fail
  refine (fields_any f 0 0 w12 PF12.out).mono ?_
  rintro e w13 ⟨rfl, g13⟩
  have B13 := hide (below_grown B12.out g13 (fun k e => by cases e))
  clear g13 PF12 B12
  go_wp2
  go_ret
  exact ⟨rfl, B13.out⟩

end Go.Proofs.Qxb6612670a
