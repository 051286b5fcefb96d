import Derived.Test.Qxb6613891aBase
namespace Go.Proofs.Qxb6613891a
open Go.RowKit

/-- Batch i of N numbers at ⟨H, o⟩ (room C), at most n in each. -/
def bat (H o N C n i : Nat) : Value := .slice (some ⟨H, o + i * n, none⟩) (min n (N - i * n)) (C - i * n)
def batRow (H o N C n b : Nat) : List Value := (List.range b).map (bat H o N C n)
/-- How many batches. -/
def cnt (N n : Nat) : Nat := (N + n - 1) / n
theorem batRow_succ (H o N C n b : Nat) : batRow H o N C n b ++ [bat H o N C n b] = batRow H o N C n (b + 1) := by
  unfold batRow
  rw [List.range_succ, List.map_append]
  rfl
theorem batRow_at (H o N C n b i : Nat) (h : i < b) : (batRow H o N C n b)[i]? = some (bat H o N C n i) := by simp [batRow, h]
theorem cnt_last (N n b : Nat) (hn : 1 ≤ n) (h1 : b * n < N) (h2 : N ≤ b * n + n) : b + 1 = cnt N n := by
  unfold cnt
  have e1 : (b + 1) * n = b * n + n := Nat.succ_mul b n
  have e2 : (b + 1 + 1) * n = b * n + n + n := by rw [Nat.succ_mul, e1]
  symm
  apply Nat.div_eq_of_lt_le
  · omega
  · omega
theorem cnt_zero (n : Nat) (hn : 1 ≤ n) : cnt 0 n = 0 := by
  unfold cnt
  exact Nat.div_eq_of_lt (by omega)
theorem lt_cnt (N n i : Nat) (hn : 1 ≤ n) : i < cnt N n ↔ i * n < N := by
  unfold cnt
  rw [Nat.lt_iff_add_one_le, Nat.le_div_iff_mul_le (by omega)]
  have e1 : (i + 1) * n = i * n + n := Nat.succ_mul i n
  omega
theorem cnt_le (N n : Nat) (hn : 1 ≤ n) : cnt N n ≤ N := by
  apply Nat.le_of_not_lt
  intro h
  have h1 := (lt_cnt N n N hn).1 h
  have h2 : N ≤ N * n := Nat.le_mul_of_pos_right N hn
  omega

theorem ownsRow_slice {w : World} {base : Nat} {e : TypeId} {size : Nat} {v : Value} {n : Nat} {xs : List Value} (h : w.ownsRow base e size v n xs) : ∃ a c, v = .slice a n c := by
  rcases h.2 with ⟨rfl, rfl⟩ | ⟨g, cap, _, rfl, _⟩
  · exact ⟨_, _, rfl⟩
  · exact ⟨_, _, rfl⟩

def lenOf : Value → Nat
  | .slice _ n _ => n
  | _ => 0

theorem cell_new {w : World} {H : Nat} {v : Value} {t : TypeId} (h : w.heap.size = H) : (w.alloc (.cells #[v] t)).cell? ⟨H, 0, none⟩ = some v := by
  subst h
  simp [go_sem]

theorem kp_grown {w wr w1 : World} {e : TypeId} {size n : Nat} {v : Value} {xs : List Value} {o : Obj} (hk : Kp w wr) (hown : wr.ownsRow w.heap.size e size v n xs) (hg : (wr.alloc o).grownBy w1 v.ownBlock) : Kp w w1 :=
  Below.grown (hk.alloc o) hg (hk.alloc o).size (fun k e => (hown.lt k e).1)

set_option maxRecDepth 100000 in
set_option maxHeartbeats 1000000 in
theorem cut_any (H o N C n : Nat) (w : World) (hn : 1 ≤ n) (hn2 : n ≤ 9223372036854775807) (hN : N ≤ 131072) (hC : N ≤ C) (_hC2 : C ≤ 131072) :
    Calls Try.prog 12 #[.slice (some ⟨H, o, none⟩) N C, .int .i64 n] w fun e w' => ∃ v, e = .returned v ∧ w'.ownsRow w.heap.size 22 1 v (cnt N n) (batRow H o N C n (cnt N n)) ∧ Kp w w' := by
  obtain ⟨i0, hi, hz0, hz1, hz2⟩ := info_parts Try.info22
  go_enter Try.func12, Try.ntmps12
  go_wp2
  go_loopw [0, 5] (fun ids v wr => ∃ b : Nat, wr.ownsRow w.heap.size 22 1 v b (batRow H o N C n b) ∧ Kp w wr ∧ ((b * n < N ∧ ids = .slice (some ⟨H, o + b * n, none⟩) (N - b * n) (C - b * n)) ∨ (b = cnt N n ∧ ∃ x c, ids = .slice x 0 c))) (fun ids _ _ => lenOf ids)
  case atStart =>
    refine ⟨0, World.ownsRow_nil _ _ _ _, Kp.refl _, ?_⟩
    by_cases h0 : N = 0
    · subst h0
      exact .inr ⟨(cnt_zero n hn).symm, _, _, rfl⟩
    · exact .inl ⟨by omega, by simp⟩
  case round =>
    obtain ⟨b, hown, hk, hcase⟩ := hrel
    obtain ⟨va, vc, hv⟩ := ownsRow_slice hown
    subst hv
    have HO := hide hown
    have HK := hide hk
    have hsz : w.heap.size ≤ wr.heap.size := hk.size
    clear hown hk
    rcases hcase with ⟨hlt, rfl⟩ | ⟨rfl, x, c, rfl⟩
    · obtain ⟨pos, hp⟩ : ∃ pos, pos = b * n := ⟨_, rfl⟩
      have hbc : b < cnt N n := (lt_cnt N n b hn).2 hlt
      have hcl := cnt_le N n hn
      have hbb : bat H o N C n b = .slice (some ⟨H, o + pos, none⟩) (min n (N - pos)) (C - pos) := by rw [hp]; rfl
      have HBB := hide hbb
      rw [← hp] at hlt ⊢
      have hnb := Nat.succ_mul b n
      rw [← hp] at hnb
      have HNB := hide hnb
      have HP := hide hp
      clear hp hbb hnb
      by_cases hr : pos + n < N
      · go_wp2_with (at_builtin; go_must (refine wpList_append_own _ rfl _ _ 25 rfl w.heap.size 22 i0 (.slice none 0 0) 1 24 Try.underlying25 hi hz0 hz1 hz2 rfl (by decide) _ _ _ rfl (HO.out.alloc _) ⟨wr.heap.size, 0, none⟩ 1 1 [.slice (some ⟨H, o + pos, none⟩) n (C - pos)] rfl rfl ?c1 ?c2 ?c3 ?c4 ?c5 ?_))
        case c1 =>
          intro j u hj
          match j, hj with
          | 0, hj =>
            simp at hj
            subst hj
            simp only [Addr.add]
            exact cell_new rfl
          | j + 1, hj => simp at hj
        case c2 => intro u hu; simp at hu; subst hu; rfl
        case c3 => unfold maxLen; omega
        case c4 => omega
        case c5 => simp; omega
        intro v' w1 hown' hgrow _
        have KK := hide (kp_grown HK.out HO.out hgrow)
        have OO := hide hown'
        obtain ⟨a2, c2, hv2⟩ := ownsRow_slice hown'
        subst hv2
        clear hown' hgrow
        go_wp2
        go_roundw
        case rel =>
          refine ⟨b + 1, ?_, KK.out, .inl ⟨?_, ?_⟩⟩
          · rw [← batRow_succ, HBB.out, Nat.min_eq_left (by omega)]; exact OO.out
          · rw [HNB.out]; exact hr
          · rw [HNB.out, Nat.sub_add_eq, Nat.sub_add_eq, ← Nat.add_assoc]
        case measure => simp [lenOf]; omega
      · go_wp2_with (at_builtin; go_must (refine wpList_append_own _ rfl _ _ 25 rfl w.heap.size 22 i0 (.slice none 0 0) 1 24 Try.underlying25 hi hz0 hz1 hz2 rfl (by decide) _ _ _ rfl (HO.out.alloc _) ⟨wr.heap.size, 0, none⟩ 1 1 [.slice (some ⟨H, o + pos, none⟩) (N - pos) (C - pos)] rfl rfl ?c1b ?c2b ?c3b ?c4b ?c5b ?_))
        case c1b =>
          intro j u hj
          match j, hj with
          | 0, hj =>
            simp at hj
            subst hj
            simp only [Addr.add]
            exact cell_new rfl
          | j + 1, hj => simp at hj
        case c2b => intro u hu; simp at hu; subst hu; rfl
        case c3b => unfold maxLen; omega
        case c4b => omega
        case c5b => simp; omega
        intro v' w1 hown' hgrow _
        have KK := hide (kp_grown HK.out HO.out hgrow)
        have OO := hide hown'
        obtain ⟨a2, c2, hv2⟩ := ownsRow_slice hown'
        subst hv2
        clear hown' hgrow
        go_wp2
        all_goals
          go_roundw
          case rel =>
            refine ⟨b + 1, ?_, KK.out, .inr ⟨cnt_last N n b hn (HP.out ▸ hlt) (HP.out ▸ (by omega)), _, _, rfl⟩⟩
            rw [← batRow_succ, HBB.out, Nat.min_eq_right (by omega)]; exact OO.out
          case measure => simp [lenOf]; omega
    · clear hi hz0 hz1 hz2
      go_wp2
      go_ret
      exact ⟨_, rfl, HO.out, HK.out⟩

end Go.Proofs.Qxb6613891a
