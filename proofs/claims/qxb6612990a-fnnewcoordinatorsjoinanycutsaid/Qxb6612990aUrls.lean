import Derived.Test.Qxb6612990aNew
import Derived.Deep.OwnRows
namespace Go.Proofs.Qxb6612990a
open Go.RowKit

theorem Try.info43 : (Try.prog.info? 43).map (fun i => (i.zero, i.size, i.bytes)) = some (some (.pointer none), 1, 8) := by kernel_rfl

/-- The slice at ao holds n URLs, the i-th of host 'f i'. -/
def Urls (w : World) (ao : Option Addr) (n : Nat) (f : Nat → ByteArray) : Prop :=
  ∀ i, i < n → ∃ g o b, ao = some ⟨g, o, none⟩ ∧ w.cell? ⟨g, o + i, none⟩ = some (.pointer (some ⟨b, 0, none⟩)) ∧ w.cell? ⟨b, 3, none⟩ = some (.string (f i))

theorem Urls.kp {w w' : World} {ao : Option Addr} {n : Nat} {f : Nat → ByteArray} (h : Urls w ao n f) (k : Kp w w') : Urls w' ao n f := by
  intro i hi
  obtain ⟨g, o, b, h0, h1, h2⟩ := h i hi
  exact ⟨g, o, b, h0, k.cell h1, k.cell h2⟩

/-- Mid-loop: the row g holds the first k URLs. -/
def UrlRow (w0 wr : World) (g n k : Nat) (f : Nat → ByteArray) : Prop :=
  Below w0.heap.size w0 wr ∧ w0.heap.size ≤ g ∧ ∃ F : Nat → Value, wr.rowIs g 43 n F ∧
    ∀ i, i < k → ∃ b, F i = .pointer (some ⟨b, 0, none⟩) ∧ b ≠ g ∧ wr.cell? ⟨b, 3, none⟩ = some (.string (f i))

theorem UrlRow.start (w : World) (n : Nat) (f : Nat → ByteArray) : UrlRow w (w.alloc (.cells (madeCells #[.pointer none] n) 43)) w.heap.size n 0 f :=
  ⟨(Below.refl _ _).alloc (Nat.le_refl _) _, Nat.le_refl _, _, World.rowIs_made w _ n 43, fun i hi => absurd hi (by omega)⟩

theorem UrlRow.step {w0 wr : World} {g n k : Nat} {f : Nat → ByteArray} (h : UrlRow w0 wr g n k f) (cs : Array Value) (hcs : cs[3]? = some (.string (f k))) :
    UrlRow w0 ((wr.setCell ⟨g, k, none⟩ (.pointer (some ⟨wr.heap.size, 0, none⟩))).alloc (.cells cs 46)) g n (k + 1) f := by
  obtain ⟨hb, hg, F, hF, hk⟩ := h
  have hlt : g < wr.heap.size := hF.lt
  have hsz : (wr.setCell ⟨g, k, none⟩ (.pointer (some ⟨wr.heap.size, 0, none⟩))).heap.size = wr.heap.size := by simp [World.setCell]
  have hb' := hb.setCell (p := ⟨g, k, none⟩) hg (.pointer (some ⟨wr.heap.size, 0, none⟩))
  refine ⟨hb'.alloc hb'.size _, hg, _, (hF.set k _).alloc _, ?_⟩
  intro i hi
  by_cases e : i = k
  · subst e
    refine ⟨wr.heap.size, by simp, by omega, ?_⟩
    have := heap_alloc_new (wr.setCell ⟨g, i, none⟩ (.pointer (some ⟨wr.heap.size, 0, none⟩))) (.cells cs 46)
    rw [hsz] at this
    simp only [World.cell?, this]; simpa using hcs
  · obtain ⟨b, h1, h2, h3⟩ := hk i (by omega)
    refine ⟨b, by simp [e, h1], h2, ?_⟩
    have hl := World.block_lt_of_cell? _ _ h3
    rw [World.cell?_of_block (w := wr) (a := ⟨b, 3, none⟩)]
    · exact h3
    · exact (Below.heap_alloc _ _ _ (by rw [hsz]; exact hl)).trans (Below.heap_setCell _ _ _ _ h2)

theorem UrlRow.urls {w0 wr : World} {g n : Nat} {f : Nat → ByteArray} (h : UrlRow w0 wr g n n f) : Urls wr (some ⟨g, 0, none⟩) n f := by
  obtain ⟨hb, hg, F, hF, hk⟩ := h
  intro i hi
  obtain ⟨b, h1, h2, h3⟩ := hk i hi
  exact ⟨g, 0, b, rfl, by rw [Nat.zero_add, hF.cell hi, h1], h3⟩

theorem urls_nil (w : World) :
    Calls Try.prog 7 #[.slice none 0 0] w fun e w' => e = .returned (.slice none 0 0) ∧ w' = w := by
  have e1 := fun w => Lib.run_eql_slice_nil (P := Try.prog) w 22 9 none 0 0 0 0 Try.underlying22
  go_enter Try.func7, Try.ntmps7
  go_wp2
  go_ret
  exact ⟨rfl, rfl⟩

set_option maxHeartbeats 400000 in
theorem urls_any (H o n c : Nat) (f : Nat → ByteArray) (w : World) (hn : n ≤ 1048576) (hc : ∀ i, i < n → w.cell? ⟨H, o + i, none⟩ = some (.string (f i))) :
    Calls Try.prog 7 #[.slice (some ⟨H, o, none⟩) n c] w fun e w' => ∃ ao, e = .returned (.slice ao n n) ∧ Urls w' ao n f ∧ Kp w w' := by
  have e1 := fun w => Lib.run_eql_slice_nil (P := Try.prog) w 22 9 (some ⟨H, o, none⟩) n c 0 0 Try.underlying22
  have hmk := run_make_row' (P := Try.prog) 26 43 (.pointer none) 8 Try.underlying26 Try.info43 rfl .i64 .i64 n (by omega) (by omega)
  have HC : Hid (∀ i, i < n → w.cell? ⟨H, o + i, none⟩ = some (.string (f i))) := hc
  clear hc
  go_enter Try.func7, Try.ntmps7
  go_wp2
  go_loopw [12] (fun i wr => ∃ k : Nat, k ≤ n ∧ i = .int .i64 k ∧ UrlRow w wr w.heap.size n k f) (fun i _ => n - (intOf i).toNat)
  case atStart => exact ⟨0, Nat.zero_le _, rfl, UrlRow.start w n f⟩
  case round =>
    obtain ⟨k, hk, rfl, hU⟩ := hrel
    clear hmk e1
    by_cases hlt : k < n
    · have h0 := HC.out k hlt
      have h1 : wr.cell? ⟨H, o + k, none⟩ = some (.string (f k)) := (hU.1.cell (World.block_lt_of_cell? _ _ h0)).trans h0
      obtain ⟨F, hF, _⟩ := hU.2.2
      have h2 : wr.frozen? ⟨w.heap.size, k, none⟩ = false := hF.frozen k
      have h3 : wr.cell? ⟨w.heap.size, k, none⟩ = some (F k) := hF.cell hlt
      have h4 := hF.lt
      have HU : Hid (UrlRow w wr w.heap.size n k f) := hU
      clear hU h0 HC
      go_wp2
      go_roundw
      case rel => exact ⟨k + 1, by omega, by go_num, HU.out.step _ (by rfl)⟩
      case measure => simp [intOf]; omega
    · have : k = n := by omega
      subst this
      go_wp2
      go_ret
      exact ⟨_, rfl, hU.urls, hU.1⟩

end Go.Proofs.Qxb6612990a
