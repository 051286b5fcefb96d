import Derived.Test.Qxb6613157aKeys
namespace Go.Proofs.Qxb6613157a
open Go.RowKit Go.WideMaps
open Go.ChangeMaps (setBlock)

/-- All that lay in w, but for the blocks of S, lies in w' as it was. -/
structure Fr (S : Nat → Prop) (w w' : World) : Prop where
  os : w'.os = w.os
  tape : w'.tape = w.tape
  output : w'.output = w.output
  size : w.heap.size ≤ w'.heap.size
  block : ∀ b, b < w.heap.size → ¬ S b → w'.heap[b]? = w.heap[b]?

section
variable {S S' : Nat → Prop} {a b c : World}
theorem Fr.refl (S : Nat → Prop) (w : World) : Fr S w w := ⟨rfl, rfl, rfl, Nat.le_refl _, fun _ _ _ => rfl⟩
theorem Fr.trans (h : Fr S a b) (k : Fr S b c) : Fr S a c :=
  ⟨k.os.trans h.os, k.tape.trans h.tape, k.output.trans h.output, Nat.le_trans h.size k.size, fun i hi hs => (k.block i (Nat.lt_of_lt_of_le hi h.size) hs).trans (h.block i hi hs)⟩
theorem Fr.mono (h : Fr S a b) (hs : ∀ i, i < a.heap.size → S i → S' i) : Fr S' a b := ⟨h.os, h.tape, h.output, h.size, fun i hi hn => h.block i hi (fun k => hn (hs i hi k))⟩
theorem Fr.drew (h : Fr S a b) : Fr S a b.drew := ⟨h.os, h.tape, h.output, h.size, h.block⟩
theorem Fr.alloc (h : Fr S a b) (o : Obj) : Fr S a (b.alloc o) :=
  ⟨h.os, h.tape, h.output, by have := h.size; simp; omega, fun i hi hs => (Below.heap_alloc _ _ _ (Nat.lt_of_lt_of_le hi h.size)).trans (h.block i hi hs)⟩
theorem Fr.setCell (h : Fr S a b) {p : Addr} (hp : S p.block ∨ a.heap.size ≤ p.block) (u : Value) : Fr S a (b.setCell p u) :=
  ⟨h.os, h.tape, h.output, by have := h.size; simp [World.setCell]; omega, fun i hi hs => (Below.heap_setCell _ _ _ _ (by
    intro e; subst e; rcases hp with hp | hp
    · exact hs hp
    · omega)).trans (h.block i hi hs)⟩
theorem size_setBlock (w : World) (r : Nat) (o : Obj) : (setBlock w r o).heap.size = w.heap.size := by simp [setBlock]
theorem heap_setBlock_other (w : World) (r : Nat) (o : Obj) (i : Nat) (h : i ≠ r) : (setBlock w r o).heap[i]? = w.heap[i]? := by
  simp only [setBlock]
  rw [Array.getElem?_setIfInBounds, if_neg (by omega)]
theorem heap_setBlock_self (w : World) (r : Nat) (o : Obj) (h : r < w.heap.size) : (setBlock w r o).heap[r]? = some o := by
  simp [setBlock, h]
theorem Fr.setBlock (h : Fr S a b) {r : Nat} (hp : S r ∨ a.heap.size ≤ r) (o : Obj) : Fr S a (setBlock b r o) :=
  ⟨h.os, h.tape, h.output, by have := h.size; rw [size_setBlock]; omega, fun i hi hs => (heap_setBlock_other _ _ _ _ (by
    intro e; subst e; rcases hp with hp | hp
    · exact hs hp
    · omega)).trans (h.block i hi hs)⟩
theorem Fr.below (h : Fr S a b) {B : Nat} (hB : B ≤ a.heap.size) (hs : ∀ i, i < B → ¬ S i) : Below B a b :=
  ⟨h.os, h.tape, h.output, h.size, fun i hi => h.block i (by omega) (hs i hi)⟩
theorem lt_of_heap {w : World} {i : Nat} {o : Obj} (h : w.heap[i]? = some o) : i < w.heap.size := (Array.getElem?_eq_some_iff.1 h).1
theorem Fr.at (h : Fr S a b) {i : Nat} {o : Obj} (hi : a.heap[i]? = some o) (hs : ¬ S i) : b.heap[i]? = some o := (h.block i (lt_of_heap hi) hs).trans hi
end

/-- Nothing that lay in w has turned. -/
abbrev Kp (w w' : World) : Prop := Fr (fun _ => False) w w'

def entryCells (k : Key3) (r : Int) (p : Nat) : Array Value :=
  #[.string k.1, .string k.2.1, .string k.2.2, .string ⟨#[]⟩, .string ⟨#[]⟩, .int .u64 0, .int .u64 0, .int .i64 r, .int .u64 0, .int .i64 0, .pointer none, .int .u64 0, .int .i64 0, .pointer none, .bool false, .int .i64 p]

/-- The row of the order. -/
def ordRow (n : Nat) (E : Nat → Nat) : List Value := (List.range n).map fun p => ptr (E p)

structure Tab (w : World) (T M L : Nat) (sh : Bool) (D : List Key3) (E : Nat → Nat) (R : Nat → Int) (ov : Value) (B : Nat) : Prop where
  tab : w.heap[T]? = some (.cells #[.map (some M), ov, .map (some L), .bool sh] 41 (0, 0))
  map : mapIs w M D E
  ord : w.ownsRow B 29 1 ov D.length (ordRow D.length E)
  nil : D = [] → ov = .slice none 0 0
  ent : ∀ p k, D[p]? = some k → w.heap[E p]? = some (.cells (entryCells k (R p) p) 51 (0, 0))
  inj : ∀ p q, p < D.length → q < D.length → E p = E q → p = q
  nodup : D.Nodup
  ok : ∀ k ∈ D, k.ok
  bT : B ≤ T
  bM : B ≤ M
  bE : ∀ p, p < D.length → B ≤ E p

theorem cell_of_heap {w : World} {b : Nat} {cs : Array Value} {t : TypeId} {fr : Nat × Nat} (h : w.heap[b]? = some (.cells cs t fr)) {i : Nat} {v : Value} (hi : cs[i]? = some v) : w.cell? ⟨b, i, none⟩ = some v := by
  simp only [World.cell?, h]
  simpa using hi
theorem free_of_heap {w : World} {b : Nat} {cs : Array Value} {t : TypeId} (h : w.heap[b]? = some (.cells cs t (0, 0))) (i : Nat) : w.frozen? ⟨b, i, none⟩ = false := by
  simp [World.frozen?, h]

theorem ownsRow_fr {S : Nat → Prop} {w w' : World} {base : Nat} {e : TypeId} {size : Nat} {v : Value} {n : Nat} {xs : List Value} (h : w.ownsRow base e size v n xs) (f : Fr S w w') (hs : ∀ g, v.ownBlock = some g → ¬ S g) : w'.ownsRow base e size v n xs := by
  obtain ⟨h1, h2⟩ := h
  refine ⟨h1, ?_⟩
  rcases h2 with h2 | ⟨g, cap, cur, hv, hg, hh, r⟩
  · exact Or.inl h2
  · refine Or.inr ⟨g, cap, cur, hv, hg, f.at hh (hs g ?_), r⟩
    subst hv; rfl

theorem Tab.keep {S : Nat → Prop} {w w' : World} {T M L : Nat} {sh : Bool} {D : List Key3} {E : Nat → Nat} {R : Nat → Int} {ov : Value} {B : Nat} (h : Tab w T M L sh D E R ov B) (f : Fr S w w')
    (sT : ¬ S T) (sM : ¬ S M) (so : ∀ g, ov.ownBlock = some g → ¬ S g) (sE : ∀ p, p < D.length → ¬ S (E p)) : Tab w' T M L sh D E R ov B where
  tab := f.at h.tab sT
  map := by
    obtain ⟨es, c, h1, _⟩ := h.map
    exact h.map.of_heap (f.block M (lt_of_heap h1) sM)
  ord := ownsRow_fr h.ord f so
  nil := h.nil
  ent := fun p k hp => f.at (h.ent p k hp) (sE p (List.getElem?_eq_some_iff.1 hp).1)
  inj := h.inj
  nodup := h.nodup
  ok := h.ok
  bT := h.bT
  bM := h.bM
  bE := h.bE

theorem Tab.kp {w w' : World} {T M L : Nat} {sh : Bool} {D : List Key3} {E : Nat → Nat} {R : Nat → Int} {ov : Value} {B : Nat} (h : Tab w T M L sh D E R ov B) (f : Kp w w') : Tab w' T M L sh D E R ov B :=
  h.keep f id id (fun _ _ => id) (fun _ _ => id)

/-! ### newTable -/
theorem tab_new (sh : Bool) (w : World) : Tab (((w.alloc (.map #[] 0)).alloc (.map #[] 0)).alloc (.cells #[.map (some w.heap.size), .slice none 0 0, .map (some (w.heap.size + 1)), .bool sh] 41)) (w.heap.size + 1 + 1) w.heap.size (w.heap.size + 1) sh [] (fun _ => 0) (fun _ => 0) (.slice none 0 0) w.heap.size where
  tab := by
    have := heap_alloc_new ((w.alloc (.map #[] 0)).alloc (.map #[] 0)) (.cells #[.map (some w.heap.size), .slice none 0 0, .map (some (w.heap.size + 1)), .bool sh] 41)
    simpa using this
  map := by
    refine ⟨#[], 0, ?_, rfl, fun p k h => by simp at h⟩
    rw [Below.heap_alloc _ _ _ (by simp; omega), Below.heap_alloc _ _ _ (by simp), heap_alloc_new]
  ord := World.ownsRow_nil _ _ _ _
  nil := fun _ => rfl
  ent := fun p k h => by simp at h
  inj := fun p q h => absurd h (by simp)
  nodup := List.nodup_nil
  ok := fun k h => by simp at h
  bT := by omega
  bM := Nat.le_refl _
  bE := fun p h => absurd h (by simp)

theorem newTable_any (sh : Bool) (w : World) :
    Calls Try.prog 5 #[.bool sh] w fun e w' => ∃ T M L, e = .returned (ptr T) ∧ Tab w' T M L sh [] (fun _ => 0) (fun _ => 0) (.slice none 0 0) w.heap.size ∧ Kp w w' := by
  have hmm := @run_makeMap Try.prog
  go_enter Try.func5, Try.ntmps5
  go_wp2
  go_ret
  exact ⟨w.heap.size + 1 + 1, w.heap.size, w.heap.size + 1, rfl, tab_new sh w, (((Fr.refl _ w).alloc _).alloc _).alloc _⟩

/-! ### lookup -/
theorem lookup_any (T M L : Nat) (k1 k2 k3 : ByteArray) (v : Value) (ov : Value) (sh : Bool) (w : World) (h : w.heap[T]? = some (.cells #[.map (some M), ov, .map (some L), .bool sh] 41 (0, 0)))
    (hl : (Instr.lookup 38 (.map (some M)) (keyV (k1, k2, k3)) false).run Try.prog w = .ok v w) :
    Calls Try.prog 6 #[ptr T, .string k1, .string k2, .string k3] w fun e w' => e = .returned v ∧ w' = w := by
  have h0 : w.cell? ⟨T, 0, none⟩ = some (.map (some M)) := cell_of_heap h rfl
  clear h
  unfold keyV at hl
  go_enter Try.func6, Try.ntmps6
  go_wp2
  go_ret
  exact ⟨rfl, rfl⟩

theorem lookup_yes {w : World} {T M L : Nat} {sh : Bool} {D : List Key3} {E : Nat → Nat} {R : Nat → Int} {ov : Value} {B : Nat} (h : Tab w T M L sh D E R ov B) (k : Key3) (p : Nat) (hp : D[p]? = some k) :
    Calls Try.prog 6 #[ptr T, .string k.1, .string k.2.1, .string k.2.2] w fun e w' => e = .returned (ptr (E p)) ∧ w' = w :=
  lookup_any T M L k.1 k.2.1 k.2.2 _ ov sh w h.tab (lookup_hit h.map h.ok h.nodup hp rfl)

theorem lookup_no {w : World} {T M L : Nat} {sh : Bool} {D : List Key3} {E : Nat → Nat} {R : Nat → Int} {ov : Value} {B : Nat} (h : Tab w T M L sh D E R ov B) (k : Key3) (hk : k.ok) (hn : k ∉ D) :
    Calls Try.prog 6 #[ptr T, .string k.1, .string k.2.1, .string k.2.2] w fun e w' => e = .returned (.pointer none) ∧ w' = w :=
  lookup_any T M L k.1 k.2.1 k.2.2 _ ov sh w h.tab (lookup_miss h.map h.ok hk hn rfl)

/-! ### order -/
theorem order_any (T M L : Nat) (ov : Value) (sh : Bool) (w : World) (h : w.heap[T]? = some (.cells #[.map (some M), ov, .map (some L), .bool sh] 41 (0, 0))) (hv : ∃ a n c, ov = .slice a n c) :
    Calls Try.prog 8 #[ptr T] w fun e w' => e = .returned ov ∧ w' = w := by
  have h0 : w.cell? ⟨T, 1, none⟩ = some ov := cell_of_heap h rfl
  clear h
  obtain ⟨a, n, c, rfl⟩ := hv
  go_enter Try.func8, Try.ntmps8
  go_wp2
  go_ret
  exact ⟨rfl, rfl⟩

/-! ### setReports -/
theorem setReports_any (b p : Nat) (k : Key3) (r r' : Int) (w : World) (h : w.heap[b]? = some (.cells (entryCells k r p) 51 (0, 0))) :
    Calls Try.prog 12 #[ptr b, .int .i64 r'] w fun e w' => e = .returned (.tuple #[]) ∧ w'.heap[b]? = some (.cells (entryCells k r' p) 51 (0, 0)) ∧ Fr (fun i => i = b) w w' := by
  have h0 : w.cell? ⟨b, 7, none⟩ = some (.int .i64 r) := cell_of_heap h rfl
  have h1 : w.frozen? ⟨b, 7, none⟩ = false := free_of_heap h 7
  have h2 : (w.setCell ⟨b, 7, none⟩ (.int .i64 r')).heap[b]? = some (.cells (entryCells k r' p) 51 (0, 0)) := by
    simp only [World.setCell, Array.getElem?_modify, h]
    simp [entryCells]
  have H2 : Hid ((w.setCell ⟨b, 7, none⟩ (.int .i64 r')).heap[b]? = some (.cells (entryCells k r' p) 51 (0, 0))) := h2
  clear h h2
  go_enter Try.func12, Try.ntmps12
  go_wp2
  go_end0
  exact ⟨rfl, H2, Fr.setCell (S := fun i => i = b) (Fr.refl _ w) (p := ⟨b, 7, none⟩) (.inl rfl) _⟩

end Go.Proofs.Qxb6613157a
