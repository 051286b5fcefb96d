import Derived.Test.Qxb6612990aBytes
import Derived.Laws.CopyOwn
import Derived.Deep.OwnRows
namespace Go.Proofs.Qxb6612990a
open Go.RowKit

theorem Try.info9 : (Try.prog.info? 9).map (fun i => (i.zero, i.size, i.bytes)) = some (some (.string ⟨#[]⟩), 1, 16) := by kernel_rfl

set_option maxRecDepth 100000 in
set_option maxHeartbeats 400000 in
theorem main_big (a : Option Addr) (n c : Nat) (f : Nat → ByteArray) (k : Int) (w : World) (hn : n ≤ maxLen) (h : Raw w a n f) (hbig : 4096 < n) :
    Calls Try.prog 3 #[.slice a n c, .int .i64 k] w fun e w' => e = .returned (.bool true) ∧ Kp w w' := by
  have hb := bytes_any a n c f k w hn h
  have HB : Hid (Calls Try.prog 5 #[.slice a n c, .int .i64 k] w fun e w' => BoolEnd e ∧ w' = w) := hb
  clear hb h
  unfold maxLen at hn
  go_enter Try.func3, Try.ntmps3
  go_wp2_with fail
  refine HB.out.mono ?_
  rintro e w' ⟨⟨b, rfl⟩, rfl⟩
  cases b
  · go_wp2
    go_ret
    exact ⟨rfl, Kp.refl _⟩
  · go_wp2
    go_ret
    exact ⟨rfl, Kp.refl _⟩

/-- What is copied. -/
def hostCells (n : Nat) (f : Nat → ByteArray) : List Value := (List.range n).map fun i => .string (f i)
theorem hostCells_length (n : Nat) (f : Nat → ByteArray) : (hostCells n f).length = n := by simp [hostCells]
theorem hostCells_at (n : Nat) (f : Nat → ByteArray) (j : Nat) (h : j < n) : (hostCells n f)[j]? = some (.string (f j)) := by
  simp [hostCells, h]
theorem hostCells_get (n : Nat) (f : Nat → ByteArray) (j : Nat) (v : Value) (h : (hostCells n f)[j]? = some v) : j < n ∧ v = .string (f j) := by
  have hj : j < n := by
    have := (List.getElem?_eq_some_iff.1 h).1
    rwa [hostCells_length] at this
  rw [hostCells_at n f j hj] at h
  exact ⟨hj, (Option.some.inj h).symm⟩
theorem hostCells_one (n : Nat) (f : Nat → ByteArray) : ∀ v ∈ hostCells n f, v.oneCell' = true := by
  intro v hv
  obtain ⟨i, _, rfl⟩ := List.mem_map.1 hv
  rfl
def zrow (n : Nat) : List Value := (madeCells #[.string ⟨#[]⟩] n).toList
theorem zrow_length (n : Nat) : (zrow n).length = n := by simp [zrow, size_madeCells]
theorem zrow_block (w : World) (n : Nat) : (w.alloc (.cells (madeCells #[.string ⟨#[]⟩] n) 9)).heap[w.heap.size]? = some (.cells (zrow n).toArray 9 (0, 0)) := by
  rw [heap_alloc_new]; simp [zrow]
theorem src_cells (w : World) (x : Addr) (n : Nat) (f : Nat → ByteArray) (h : Raw w (some x) n f) (o : Obj) : ∀ j v, (hostCells n f)[j]? = some v → (w.alloc o).cell? (x.add j) = some v := by
  intro j v hv
  obtain ⟨hj, rfl⟩ := hostCells_get n f j v hv
  obtain ⟨b, o', hx, hc, _⟩ := h j hj
  obtain rfl := Option.some.inj hx
  have e : (⟨b, o', none⟩ : Addr).add j = ⟨b, o' + j, none⟩ := by simp [Addr.add]
  rw [e]
  exact ((Kp.refl w).alloc o).cell hc
theorem row_cells (w w2 : World) (n : Nat) (f : Nat → ByteArray) (h : w2.heap[w.heap.size]? = some (.cells (splice (zrow n) 0 (hostCells n f)).toArray 9 (0, 0))) (j : Nat) (hj : j < n) :
    w2.cell? ⟨w.heap.size, j, none⟩ = some (.string (f j)) := by
  have e : splice (zrow n) 0 (hostCells n f) = hostCells n f := by
    simp [splice, hostCells_length, zrow_length]
  rw [e] at h
  simp only [World.cell?, h]
  simpa using hostCells_at n f j hj

theorem host_any (q n c : Nat) (ao : Option Addr) (f : Nat → ByteArray) (i : Nat) (I : Int) (S : ByteArray) (w : World) (hC : Coord w q n ao c) (hU : Urls w ao n f) (hI : I = (i : Int)) (hi : i < n) (hS : f i = S) :
    Calls Try.prog 9 #[.pointer (some ⟨q, 0, none⟩), .int .i64 I] w fun e w' => e = .returned (.string S) ∧ w' = w := by
  subst hI; subst hS
  obtain ⟨g, o, b, rfl, h1, h2⟩ := hU i hi
  exact coordBaseHost_any q n c g o b i (f i) w hC.1 hi h1 h2

set_option maxRecDepth 100000 in
set_option maxHeartbeats 4000000 in
theorem main_some (x : Addr) (n c : Nat) (f : Nat → ByteArray) (k : Int) (w : World) (hn : n ≤ 4096) (h : Raw w (some x) n f) :
    Calls Try.prog 3 #[.slice (some x) n c, .int .i64 k] w fun e w' => e = .returned (.bool true) ∧ Kp w w' := by
  have HB : Hid (Calls Try.prog 5 #[.slice (some x) n c, .int .i64 k] w fun e w' => BoolEnd e ∧ w' = w) := bytes_any (some x) n c f k w (by unfold maxLen; omega) h
  have HR : Hid (Raw w (some x) n f) := h
  clear h
  have e1 := fun w => run_neq_slice_nil_any (P := Try.prog) w 22 9 (some x) n c 0 0 Try.underlying22
  have hmk := run_make_row' (P := Try.prog) 22 9 (.string ⟨#[]⟩) 16 Try.underlying22 Try.info9 rfl .i64 .i64 n (by omega) (by omega)
  go_enter Try.func3, Try.ntmps3
  go_wp2_with fail
  refine HB.out.mono ?_
  rintro e w0 ⟨⟨b, rfl⟩, hw0⟩
  obtain rfl : w = w0 := hw0.symm
  clear hw0 HB
  cases b
  · go_wp2
    go_ret
    exact ⟨rfl, Kp.refl _⟩
  · go_wp2_with (show wpList _ _ _ (Oper.mk (some 28) _ _ _ _ _ :: _) _ _; refine wpList_copy_splice rfl (.tmp 26) (.tmp 27) 22 22 rfl 9 Try.underlying22 (by kernel_rfl) _ _ _ _ _ _ rfl rfl w.heap.size 0 (zrow n) 9 (zrow_block w n) (hostCells n f) (by rw [hostCells_length]; simp) (fun _ => ⟨rfl, _, rfl, src_cells w x n f HR.out _⟩) (by rw [hostCells_length, zrow_length]; omega) (hostCells_one n f) w.heap.size w ((Below.refl _ _).alloc (Nat.le_refl _) _) (Nat.le_refl _) ?_)
    intro w2 HG hB2
    have HC : Hid (∀ j, j < n → w2.cell? ⟨w.heap.size, j, none⟩ = some (.string (f j))) := row_cells w w2 n f HG.out
    have HK : Hid (Kp w w2) := hB2
    clear HG hB2 hmk e1 HR
    go_wp2
    go_loop [6, 7] (fun t i => ∃ (j : Nat) (z : Int), j ≤ n ∧ i = .int .i64 j ∧ t = .int .i64 z) (fun _ i => n - (intOf i).toNat)
    case atStart => exact ⟨0, 0, Nat.zero_le _, rfl, rfl⟩
    case round =>
      obtain ⟨j, z, hj, rfl, rfl⟩ := hrel
      by_cases hlt : j < n
      · have hcj := HC.out j hlt
        go_wp2
        · go_ret
          exact ⟨rfl, HK⟩
        · go_round
          case rel => exact ⟨j + 1, _, by omega, by go_num, rfl⟩
          case measure => simp [intOf]; omega
      · by_cases hk0 : k < 0
        · go_wp2
          go_ret
          exact ⟨rfl, HK⟩
        · by_cases hk1 : (n : Int) < k
          · go_wp2
            go_ret
            exact ⟨rfl, HK⟩
          · obtain ⟨kn, rfl⟩ := Int.eq_ofNat_of_zero_le (show 0 ≤ k by omega)
            have hkn : kn ≤ n := by omega
            clear hk0 hk1
            have hc2 := HC.out
            go_wp2_with fail
            refine (urls_any w.heap.size 0 n n f w2 (by omega) (by simpa using hc2)).mono ?_
            rintro e w3 ⟨ao, rfl, hU, hK3⟩
            have HU1 : Hid (Urls w3 ao n f) := hU
            have HK3 : Hid (Kp w2 w3) := hK3
            clear hU hK3 hc2
            go_wp2_with fail
            refine (ZZnewC_any n n ao w3 (by omega)).mono ?_
            rintro e w4 ⟨q, rfl, hC, hK4⟩
            have HC1 : Hid (Coord w4 q n ao n) := hC
            have HU1' : Hid (Urls w4 ao n f) := HU1.out.kp hK4
            have HK4 : Hid (Kp w2 w4) := HK3.out.trans hK4
            clear hC hK4 HU1 HK3
            go_wp2_with fail
            refine (urls_any w.heap.size 0 kn n f w4 (by omega) (fun j hj => HK4.out.cell (by simpa using HC.out j (by omega)))).mono ?_
            rintro e w5 ⟨ao2, rfl, hU, hK5⟩
            have HU2 : Hid (Urls w5 ao2 kn f) := hU
            have HK5 : Hid (Kp w4 w5) := hK5
            clear hU hK5
            go_wp2_with fail
            refine (ZZnewC_any kn kn ao2 w5 (by omega)).mono ?_
            rintro e w6 ⟨q2, rfl, hC, hK6⟩
            have HC2 : Hid (Coord w6 q2 kn ao2 kn) := hC
            have HU2' : Hid (Urls w6 ao2 kn f) := HU2.out.kp hK6
            have HK6 : Hid (Kp w4 w6) := HK5.out.trans hK6
            clear hC hK6 HU2 HK5
            by_cases heq : kn = n
            · subst heq
              clear hkn
              go_wp2_with fail
              refine (urls_any w.heap.size 0 0 0 (fun i => f (kn + i)) w6 (by omega) (fun j hj => absurd hj (by omega))).mono ?_
              rintro e w7 ⟨ao3, rfl, hU, hK7⟩
              have HU3 : Hid (Urls w7 ao3 0 (fun i => f (kn + i))) := hU
              have HK7 : Hid (Kp w6 w7) := hK7
              clear hU hK7
              go_wp2_with fail
              refine (ZZnewC_any 0 0 ao3 w7 (by omega)).mono ?_
              rintro e w8 ⟨q3, rfl, hC, hK8⟩
              have HK8 : Kp w6 w8 := HK7.out.trans hK8
              have Z : Hid (Coord w8 q kn ao kn ∧ Coord w8 q2 kn ao2 kn ∧ Coord w8 q3 0 ao3 0 ∧ Urls w8 ao kn f ∧ Urls w8 ao2 kn f ∧ Urls w8 ao3 0 (fun i => f (kn + i)) ∧ (∀ j, j < kn → w8.cell? ⟨w.heap.size, j, none⟩ = some (.string (f j))) ∧ Kp w w8) :=
                ⟨(HC1.out.kp HK6.out).kp HK8, HC2.out.kp HK8, hC, (HU1'.out.kp HK6.out).kp HK8, HU2'.out.kp HK8, HU3.out.kp hK8, fun j hj => HK8.cell (HK6.out.cell (HK4.out.cell (HC.out j hj))), ((HK.out.trans HK4.out).trans HK6.out).trans HK8⟩
              clear hC hK8 HK8 HK7 HU3 HC2 HU2' HK6 HC1 HU1' HK4 HC HK
              go_wp2_with fail
              refine (fresh_any q kn kn ao _ _ Z.out.1 rfl (by omega)).mono ?_
              rintro e w9 ⟨rfl, hw9⟩
              obtain rfl := hw9
              go_wp2_with fail
              refine (fresh_any q2 kn kn ao2 _ _ Z.out.2.1 rfl (by omega)).mono ?_
              rintro e w10 ⟨rfl, hw10⟩
              obtain rfl := hw10
              go_wp2_with fail
              refine (fresh_any q3 0 0 ao3 _ _ Z.out.2.2.1 (by omega) (by omega)).mono ?_
              rintro e w11 ⟨rfl, hw11⟩
              obtain rfl := hw11
              go_wp2_with fail
              obtain ⟨z1, z2, z3, z4, z5, z6, z7, z8⟩ := Z.out
              have HZ1 : Hid (Coord w11 q kn ao kn) := z1
              have HZ2 : Hid (Coord w11 q2 kn ao2 kn) := z2
              have HZ3 : Hid (Coord w11 q3 0 ao3 0) := z3
              have HZ4 : Hid (Urls w11 ao kn f) := z4
              have HZ5 : Hid (Urls w11 ao2 kn f) := z5
              have HZ6 : Hid (Urls w11 ao3 0 (fun i => f (kn + i))) := z6
              have HZ7 : Hid (∀ j, j < kn → w11.cell? ⟨w.heap.size, j, none⟩ = some (.string (f j))) := z7
              have HZ8 : Hid (Kp w w11) := z8
              clear z1 z2 z3 z4 z5 z6 z7 z8 Z
              go_loop [11] (fun i => ∃ l : Nat, l ≤ kn ∧ i = .int .i64 l) (fun i => kn - (intOf i).toNat)
              case atStart => exact ⟨0, Nat.zero_le _, rfl⟩
              case round =>
                obtain ⟨l, hl, rfl⟩ := hrel
                by_cases hll : l < kn
                · have hcl := HZ7.out l hll
                  by_cases hlk : l < kn
                  · go_wp2_with fail
                    refine (host_any q kn kn ao f l _ (f l) _ HZ1.out HZ4.out rfl hll rfl).mono ?_
                    rintro e w12 ⟨rfl, hw12⟩
                    obtain rfl := hw12
                    go_wp2_with fail
                    refine (host_any q2 kn kn ao2 f l _ (f l) _ HZ2.out HZ5.out rfl hlk rfl).mono ?_
                    rintro e w13 ⟨rfl, hw13⟩
                    obtain rfl := hw13
                    go_wp2
                    go_round
                    case rel => exact ⟨l + 1, by omega, by go_num⟩
                    case measure => simp [intOf]; omega
                  · omega
                · go_wp2
                  go_ret
                  exact ⟨rfl, HZ8⟩
            · have hkl : kn < n := by omega
              clear heq hkn
              go_wp2_with fail
              refine (urls_any w.heap.size kn (n - kn) (n - kn) (fun i => f (kn + i)) w6 (by omega) (fun j hj => HK6.out.cell (HK4.out.cell (HC.out (kn + j) (by omega))))).mono ?_
              rintro e w7 ⟨ao3, rfl, hU, hK7⟩
              have HU3 : Hid (Urls w7 ao3 (n - kn) (fun i => f (kn + i))) := hU
              have HK7 : Hid (Kp w6 w7) := hK7
              clear hU hK7
              go_wp2_with fail
              refine (ZZnewC_any (n - kn) (n - kn) ao3 w7 (by omega)).mono ?_
              rintro e w8 ⟨q3, rfl, hC, hK8⟩
              have HK8 : Kp w6 w8 := HK7.out.trans hK8
              have Z : Hid (Coord w8 q n ao n ∧ Coord w8 q2 kn ao2 kn ∧ Coord w8 q3 (n - kn) ao3 (n - kn) ∧ Urls w8 ao n f ∧ Urls w8 ao2 kn f ∧ Urls w8 ao3 (n - kn) (fun i => f (kn + i)) ∧ (∀ j, j < n → w8.cell? ⟨w.heap.size, j, none⟩ = some (.string (f j))) ∧ Kp w w8) :=
                ⟨(HC1.out.kp HK6.out).kp HK8, HC2.out.kp HK8, hC, (HU1'.out.kp HK6.out).kp HK8, HU2'.out.kp HK8, HU3.out.kp hK8, fun j hj => HK8.cell (HK6.out.cell (HK4.out.cell (HC.out j hj))), ((HK.out.trans HK4.out).trans HK6.out).trans HK8⟩
              clear hC hK8 HK8 HK7 HU3 HC2 HU2' HK6 HC1 HU1' HK4 HC HK
              go_wp2_with fail
              refine (fresh_any q n n ao _ _ Z.out.1 rfl (by omega)).mono ?_
              rintro e w9 ⟨rfl, hw9⟩
              obtain rfl := hw9
              go_wp2_with fail
              refine (fresh_any q2 kn kn ao2 _ _ Z.out.2.1 rfl (by omega)).mono ?_
              rintro e w10 ⟨rfl, hw10⟩
              obtain rfl := hw10
              go_wp2_with fail
              refine (fresh_any q3 (n - kn) (n - kn) ao3 _ _ Z.out.2.2.1 (by omega) (by omega)).mono ?_
              rintro e w11 ⟨rfl, hw11⟩
              obtain rfl := hw11
              go_wp2_with fail
              obtain ⟨z1, z2, z3, z4, z5, z6, z7, z8⟩ := Z.out
              have HZ1 : Hid (Coord w11 q n ao n) := z1
              have HZ2 : Hid (Coord w11 q2 kn ao2 kn) := z2
              have HZ3 : Hid (Coord w11 q3 (n - kn) ao3 (n - kn)) := z3
              have HZ4 : Hid (Urls w11 ao n f) := z4
              have HZ5 : Hid (Urls w11 ao2 kn f) := z5
              have HZ6 : Hid (Urls w11 ao3 (n - kn) (fun i => f (kn + i))) := z6
              have HZ7 : Hid (∀ j, j < n → w11.cell? ⟨w.heap.size, j, none⟩ = some (.string (f j))) := z7
              have HZ8 : Hid (Kp w w11) := z8
              clear z1 z2 z3 z4 z5 z6 z7 z8 Z
              go_loop [11] (fun i => ∃ l : Nat, l ≤ n ∧ i = .int .i64 l) (fun i => n - (intOf i).toNat)
              case atStart => exact ⟨0, Nat.zero_le _, rfl⟩
              case round =>
                obtain ⟨l, hl, rfl⟩ := hrel
                by_cases hll : l < n
                · have hcl := HZ7.out l hll
                  by_cases hlk : l < kn
                  · go_wp2_with fail
                    refine (host_any q n n ao f l _ (f l) _ HZ1.out HZ4.out rfl hll rfl).mono ?_
                    rintro e w12 ⟨rfl, hw12⟩
                    obtain rfl := hw12
                    go_wp2_with fail
                    refine (host_any q2 kn kn ao2 f l _ (f l) _ HZ2.out HZ5.out rfl hlk rfl).mono ?_
                    rintro e w13 ⟨rfl, hw13⟩
                    obtain rfl := hw13
                    go_wp2
                    go_round
                    case rel => exact ⟨l + 1, by omega, by go_num⟩
                    case measure => simp [intOf]; omega
                  · go_wp2_with fail
                    refine (host_any q n n ao f l _ (f l) _ HZ1.out HZ4.out rfl hll rfl).mono ?_
                    rintro e w12 ⟨rfl, hw12⟩
                    obtain rfl := hw12
                    go_wp2_with fail
                    refine (host_any q3 (n - kn) (n - kn) ao3 (fun i => f (kn + i)) (l - kn) _ (f l) _ HZ3.out HZ6.out (by omega) (by omega) (by show f (kn + (l - kn)) = f l; congr 1; omega)).mono ?_
                    rintro e w13 ⟨rfl, hw13⟩
                    obtain rfl := hw13
                    go_wp2
                    go_round
                    case rel => exact ⟨l + 1, by omega, by go_num⟩
                    case measure => simp [intOf]; omega
                · go_wp2
                  go_ret
                  exact ⟨rfl, HZ8⟩

end Go.Proofs.Qxb6612990a
