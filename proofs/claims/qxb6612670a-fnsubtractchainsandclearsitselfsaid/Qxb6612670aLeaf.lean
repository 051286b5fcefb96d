import Derived.Test.Qxb6612670aProg
import Derived.WalkKit
import Derived.WalkSpells
import Derived.WalkLawsBesides
import Derived.Deep.QuietTactic
import Derived.BigQuiet
namespace Go.Proofs.Qxb6612670a
open Go.RowKit

theorem hide {p : Prop} (h : p) : Hid p := h
abbrev ptr (b : Nat) : Value := .pointer (some ⟨b, 0, none⟩)
/-- Block b holds the counts x, y. -/
def Pair (w : World) (b : Nat) (x y : Int) : Prop := w.heap[b]? = some (.cells #[.int .i64 x, .int .i64 y] 29 (0, 0))

theorem Pair.lt {w : World} {b : Nat} {x y : Int} (h : Pair w b x y) : b < w.heap.size := (Array.getElem?_eq_some_iff.1 h).1
theorem Pair.c0 {w : World} {b : Nat} {x y : Int} (h : Pair w b x y) : w.cell? ⟨b, 0, none⟩ = some (.int .i64 x) := by
  unfold Pair at h; simp [World.cell?, h]
theorem Pair.c1 {w : World} {b : Nat} {x y : Int} (h : Pair w b x y) : w.cell? ⟨b, 1, none⟩ = some (.int .i64 y) := by
  unfold Pair at h; simp [World.cell?, h]
theorem Pair.free {w : World} {b : Nat} {x y : Int} (h : Pair w b x y) (i : Nat) : w.frozen? ⟨b, i, none⟩ = false := by
  unfold Pair at h; simp [World.frozen?, h]
theorem Pair.keep {w w' : World} {b : Nat} {x y : Int} {row : Option Nat} (h : Pair w b x y) (g : w.grownBy w' row) (hn : some b ≠ row) : Pair w' b x y := (g.block b h.lt hn).trans h
theorem Pair.set0 {w : World} {b : Nat} {x y : Int} (h : Pair w b x y) (u : Int) : Pair (w.setCell ⟨b, 0, none⟩ (.int .i64 u)) b u y := by
  unfold Pair at h ⊢
  simp only [World.setCell, Array.getElem?_modify, h]
  simp
theorem Pair.set1 {w : World} {b : Nat} {x y : Int} (h : Pair w b x y) (u : Int) : Pair (w.setCell ⟨b, 1, none⟩ (.int .i64 u)) b x u := by
  unfold Pair at h ⊢
  simp only [World.setCell, Array.getElem?_modify, h]
  simp

/-- ZZnewBreakerCounts -/
theorem new_any (x y : Int) (w : World) :
    Calls Try.prog 4 #[.int .i64 x, .int .i64 y] w fun e w' => ∃ b, e = .returned (ptr b) ∧ Pair w' b x y ∧ w.heap.size ≤ b ∧ w.grownBy w' none := by
  go_enter Try.func4, Try.ntmps4
  go_wp2
  go_ret
  exact ⟨w.heap.size, rfl, heap_alloc_new w _, Nat.le_refl _, World.grownBy_alloc w _ _⟩

/-- ZZbreakerCountsFields -/
theorem fields_any (b : Nat) (x y : Int) (w : World) (h : Pair w b x y) :
    Calls Try.prog 6 #[ptr b] w fun e w' => e = .returned (.tuple #[.int .i64 x, .int .i64 y]) ∧ w.grownBy w' none := by
  have h0 := h.c0
  have h1 := h.c1
  clear h
  go_enter Try.func6, Try.ntmps6
  go_wp2
  go_quiet (fail)
  go_wp2
  go_ret2
  exact ⟨rfl, ⟨rfl, rfl, rfl, Nat.le_refl _, fun _ _ _ => rfl⟩⟩

theorem grown_two (w : World) (b : Nat) (o : Obj) (u v : Value) : w.grownBy (((w.setCell ⟨b, 0, none⟩ u).setCell ⟨b, 1, none⟩ v).alloc o).drew.drew (some b) := by
  have hs : ((w.setCell ⟨b, 0, none⟩ u).setCell ⟨b, 1, none⟩ v).heap.size = w.heap.size := by simp [World.setCell]
  refine ⟨rfl, rfl, rfl, ?_, ?_⟩
  · show w.heap.size ≤ (((w.setCell ⟨b, 0, none⟩ u).setCell ⟨b, 1, none⟩ v).alloc o).heap.size
    simp [World.setCell]
  · intro k hk hn
    have hkb : k ≠ b := fun e => hn (by rw [e])
    show (((w.setCell ⟨b, 0, none⟩ u).setCell ⟨b, 1, none⟩ v).alloc o).heap[k]? = _
    rw [Below.heap_alloc _ _ _ (by omega), Below.heap_setCell _ _ _ _ hkb, Below.heap_setCell _ _ _ _ hkb]
theorem pair_two {w : World} {b : Nat} {x y : Int} (h : Pair w b x y) (o : Obj) (u v : Int) : Pair (((w.setCell ⟨b, 0, none⟩ (.int .i64 u)).setCell ⟨b, 1, none⟩ (.int .i64 v)).alloc o).drew.drew b u v :=
  have h2 : Pair (((w.setCell ⟨b, 0, none⟩ (.int .i64 u)).setCell ⟨b, 1, none⟩ (.int .i64 v)).alloc o) b u v := ((h.set0 u).set1 v).keep (row := none) (World.grownBy_alloc _ o none) (by simp)
  h2

set_option maxHeartbeats 400000 in
/-- (*breakerCounts).subtract -/
theorem sub_any (b : Nat) (x y p q : Int) (w : World) (h : Pair w b x y) :
    Calls Try.prog 7 #[ptr b, .agg #[.int .i64 p, .int .i64 q]] w fun e w' => e = .returned (.tuple #[]) ∧ Pair w' b (wrap64 (x - p)) (wrap64 (y - q)) ∧ w.grownBy w' (some b) := by
  have hb := h.lt
  have h0 := h.c0
  have h1 := h.c1
  have f0 := h.free 0
  have f1 := h.free 1
  have HP := hide h
  clear h
  go_enter Try.func7, Try.ntmps7
  go_wp2
  go_region
  go_wp2
  go_region
  go_wp2
  go_end0
  exact ⟨rfl, pair_two HP.out _ _ _, grown_two w b _ _ _⟩

/-- ZZbreakerCountsSubtract -/
theorem zsub_any (b d : Nat) (x y p q : Int) (w : World) (h : Pair w b x y) (hd : Pair w d p q) :
    Calls Try.prog 5 #[ptr b, ptr d] w fun e w' => e = .returned (.tuple #[]) ∧ Pair w' b (wrap64 (x - p)) (wrap64 (y - q)) ∧ w.grownBy w' (some b) := by
  have h0 := hd.c0
  have h1 := hd.c1
  have HS := hide (sub_any b x y p q w h)
  clear h hd
  go_enter Try.func5, Try.ntmps5
  go_wp2_with fail
  refine HS.out.mono ?_
  rintro e w' ⟨rfl, hp, hg⟩
  have HP := hide hp
  have HG := hide hg
  clear hp hg HS
  go_wp2_with fail
  go_end0
  exact ⟨rfl, HP.out, HG.out⟩

end Go.Proofs.Qxb6612670a
