import Derived.Test.Qxb6613157aView
import Derived.Maps.AppendAt
namespace Go.Proofs.Qxb6613157a
open Go.RowKit Go.WideMaps
open Go.ChangeMaps (setBlock)

theorem Try.info29 : (Try.prog.info? 29).map (fun i => (i.zero, i.size, i.bytes)) = some (some (.pointer none), 1, 8) := by kernel_rfl

theorem hide {p : Prop} (h : p) : Hid p := h
theorem ownsRow_slice {w : World} {base : Nat} {e : TypeId} {size : Nat} {v : Value} {n : Nat} {xs : List Value} (h : w.ownsRow base e size v n xs) : ∃ a c, v = .slice a n c := by
  rcases h.2 with ⟨rfl, rfl⟩ | ⟨g, cap, _, rfl, _⟩
  · exact ⟨_, _, rfl⟩
  · exact ⟨_, _, rfl⟩

theorem ordRow_succ (n : Nat) (E : Nat → Nat) (b : Nat) : ordRow n E ++ [ptr b] = ordRow (n + 1) (fun p => if p = n then b else E p) := by
  unfold ordRow
  rw [List.range_succ, List.map_append]
  congr 1
  · apply List.map_congr_left
    intro p hp
    have : p ≠ n := by have := List.mem_range.1 hp; omega
    simp [this]
  · simp

theorem Fr.grown {S : Nat → Prop} {a b c : World} {row : Option Nat} (h : Fr S a b) (g : b.grownBy c row) (hr : ∀ k, row = some k → S k ∨ a.heap.size ≤ k) : Fr S a c :=
  ⟨g.os.trans h.os, g.tape.trans h.tape, g.output.trans h.output, Nat.le_trans h.size g.size, fun i hi hs => (g.block i (Nat.lt_of_lt_of_le hi h.size) (by
    intro e
    rcases hr i e.symm with h1 | h1
    · exact hs h1
    · omega)).trans (h.block i hi hs)⟩

theorem Tab.ownBlock_at {w : World} {T M L : Nat} {sh : Bool} {D : List Key3} {E : Nat → Nat} {R : Nat → Int} {ov : Value} {B : Nat} (h : Tab w T M L sh D E R ov B) {g : Nat} (hg : ov.ownBlock = some g) : B ≤ g ∧ ∃ cur, w.heap[g]? = some (.cells cur 29 (0, 0)) := by
  rcases h.ord.2 with ⟨e1, _⟩ | ⟨g', cap, cur, e1, e3, e2, _⟩
  · subst e1; simp [Value.ownBlock] at hg
  · subst e1
    simp [Value.ownBlock] at hg
    subst hg
    exact ⟨e3, cur, e2⟩

theorem Tab.map_at {w : World} {T M L : Nat} {sh : Bool} {D : List Key3} {E : Nat → Nat} {R : Nat → Int} {ov : Value} {B : Nat} (h : Tab w T M L sh D E R ov B) : ∃ es c, w.heap[M]? = some (.map es c) := by
  obtain ⟨es, c, h1, _⟩ := h.map
  exact ⟨es, c, h1⟩

theorem ownBlock_of {w : World} {base : Nat} {e : TypeId} {size : Nat} {v : Value} {n : Nat} {xs : List Value} (h : w.ownsRow base e size v n xs) {g : Nat} (hg : v.ownBlock = some g) : ∃ cur, w.heap[g]? = some (.cells cur e (0, 0)) := by
  rcases h.2 with ⟨e1, _⟩ | ⟨g', cap, cur, e1, e3, e2, _⟩
  · subst e1; simp [Value.ownBlock] at hg
  · subst e1
    simp [Value.ownBlock] at hg
    subst hg
    exact ⟨cur, e2⟩

/-- What 'open' does to the table. -/
theorem tab_open {w w2 w3 : World} {T M L : Nat} {sh : Bool} {D : List Key3} {E : Nat → Nat} {R : Nat → Int} {ov v' : Value} {B : Nat} (h : Tab w T M L sh D E R ov B) {k : Key3} (hk : k.ok) (hn : k ∉ D) (r : Int) (hB : B ≤ w.heap.size)
    {o : Obj} (hm : ∀ w', w'.heap[M]? = some o → mapIs w' M (D ++ [k]) (fun p => if p = D.length then w.heap.size else E p))
    (hw2 : w2 = setBlock (w.alloc (.cells (entryCells k r D.length) 51)) M o) {cs : Array Value}
    (hown : w3.ownsRow B 29 1 v' (D.length + 1) (ordRow D.length E ++ [ptr w.heap.size])) (hg : (w2.alloc (.cells cs 29)).grownBy w3 ov.ownBlock) :
    Tab (w3.setCell ⟨T, 1, none⟩ v') T M L sh (D ++ [k]) (fun p => if p = D.length then w.heap.size else E p) (fun p => if p = D.length then r else R p) v' B ∧
    Fr (fun i => i = T ∨ i = M ∨ ov.ownBlock = some i) w (w3.setCell ⟨T, 1, none⟩ v') := by
  obtain ⟨es, cl, hM⟩ := h.map_at
  have hTM : T ≠ M := by
    intro e; have := h.tab; rw [e, hM] at this; simp at this
  have hMl := lt_of_heap hM
  have hTl := lt_of_heap h.tab
  have hoT : ov.ownBlock ≠ some T := by
    intro e
    obtain ⟨_, cur, h1⟩ := h.ownBlock_at e
    rw [h.tab] at h1; simp at h1
  have hoM : ov.ownBlock ≠ some M := by
    intro e
    obtain ⟨_, cur, h1⟩ := h.ownBlock_at e
    rw [hM] at h1; simp at h1
  have hol : ∀ g, ov.ownBlock = some g → g < w.heap.size := by
    intro g e
    obtain ⟨_, cur, h1⟩ := h.ownBlock_at e
    exact lt_of_heap h1
  have z2 : w2.heap.size = w.heap.size + 1 := by rw [hw2, size_setBlock]; simp
  -- the frame, piece by piece
  have f2 : Fr (fun i => i = M) w (w2.alloc (.cells cs 29)) := by
    rw [hw2]
    exact (Fr.setBlock (S := fun i => i = M) ((Fr.refl _ w).alloc _) (.inl rfl) _).alloc _
  have f3 : Fr (fun i => i = M ∨ ov.ownBlock = some i) w w3 := (f2.mono (fun _ _ e => .inl e)).grown hg (fun k e => .inl (.inr e))
  have f4 : Fr (fun i => i = T ∨ i = M ∨ ov.ownBlock = some i) w (w3.setCell ⟨T, 1, none⟩ v') :=
    Fr.setCell (S := fun i => i = T ∨ i = M ∨ ov.ownBlock = some i) (f3.mono (fun _ _ e => .inr e)) (p := ⟨T, 1, none⟩) (.inl (.inl rfl)) _
  have t3 : w3.heap[T]? = some (.cells #[.map (some M), ov, .map (some L), .bool sh] 41 (0, 0)) := f3.at h.tab (by
    rintro (e | e)
    · exact hTM e
    · exact hoT e)
  have m3 : w3.heap[M]? = some o := by
    rw [hg.block M (by simp; omega) (fun e => hoM e.symm), Below.heap_alloc _ _ _ (by omega), hw2]
    exact heap_setBlock_self _ _ _ (by simp; omega)
  have n3 : w3.heap[w.heap.size]? = some (.cells (entryCells k r D.length) 51 (0, 0)) := by
    rw [hg.block w.heap.size (by simp; omega) (fun e => by have := hol _ e.symm; omega), Below.heap_alloc _ _ _ (by omega), hw2, heap_setBlock_other _ _ _ _ (by omega)]
    exact heap_alloc_new _ _
  have hEl : ∀ p, p < D.length → E p < w.heap.size := fun p hp => lt_of_heap (h.ent p _ (List.getElem?_eq_getElem hp))
  refine ⟨?_, f4⟩
  constructor
  · simp only [World.setCell, Array.getElem?_modify, t3]
    simp
  · apply hm
    rw [Below.heap_setCell _ _ _ _ (fun e => hTM e.symm)]
    exact m3
  · have : (w3.setCell ⟨T, 1, none⟩ v').ownsRow B 29 1 v' (D.length + 1) (ordRow D.length E ++ [ptr w.heap.size]) := by
      refine ownsRow_fr (S := fun i => i = T) hown (Fr.setCell (S := fun i => i = T) (Fr.refl _ _) (p := ⟨T, 1, none⟩) (.inl rfl) _) ?_
      intro g hgg e
      subst e
      obtain ⟨cur, h1⟩ := ownBlock_of hown hgg
      rw [t3] at h1; simp at h1
    rw [ordRow_succ] at this
    simpa using this
  · intro e; simp at e
  · intro p k' hp
    by_cases e : p = D.length
    · subst e
      simp at hp
      subst hp
      simp only [if_true]
      rw [Below.heap_setCell _ _ _ _ (by show w.heap.size ≠ T; omega)]
      exact n3
    · have hlt : p < D.length := by
        have := (List.getElem?_eq_some_iff.1 hp).1
        simp at this; omega
      rw [List.getElem?_append_left hlt] at hp
      simp only [if_neg e]
      have he := h.ent p k' hp
      refine f4.at he ?_
      rintro (e1 | e1 | e1)
      · rw [e1, h.tab] at he; simp at he
      · rw [e1, hM] at he; simp at he
      · obtain ⟨_, cur, h1⟩ := h.ownBlock_at e1
        rw [he] at h1; simp at h1
  · intro p q hp hq
    simp only [List.length_append, List.length_singleton] at hp hq
    by_cases e1 : p = D.length <;> by_cases e2 : q = D.length
    · intro _; omega
    · simp only [if_pos e1, if_neg e2]
      have := hEl q (by omega)
      omega
    · simp only [if_neg e1, if_pos e2]
      have := hEl p (by omega)
      omega
    · simp only [if_neg e1, if_neg e2]
      exact h.inj p q (by omega) (by omega)
  · rw [List.nodup_append]
    refine ⟨h.nodup, by simp, ?_⟩
    intro a ha b hb e
    simp at hb
    subst e; subst hb
    exact hn ha
  · intro k' hk'
    simp at hk'
    rcases hk' with hk' | rfl
    · exact h.ok k' hk'
    · exact hk
  · exact h.bT
  · exact h.bM
  · intro p hp
    simp only [List.length_append, List.length_singleton] at hp
    by_cases e : p = D.length
    · simp [e, hB]
    · simp only [if_neg e]
      exact h.bE p (by omega)

theorem cell_new {w : World} {H : Nat} {v : Value} {t : TypeId} (h : w.heap.size = H) : (w.alloc (.cells #[v] t)).cell? ⟨H, 0, none⟩ = some v := by
  subst h
  simp [go_sem]

theorem open_any {w : World} {T M L : Nat} {sh : Bool} {D : List Key3} {E : Nat → Nat} {R : Nat → Int} {ov : Value} {B : Nat} (h : Tab w T M L sh D E R ov B) (k : Key3) (hk : k.ok) (hn : k ∉ D) (r : Int) (hlen : D.length ≤ 4096) (hB : B ≤ w.heap.size) :
    Calls Try.prog 7 #[ptr T, .string k.1, .string k.2.1, .string k.2.2, .int .i64 r] w fun e w' =>
      e = .returned (ptr w.heap.size) ∧ ∃ v', Tab w' T M L sh (D ++ [k]) (fun p => if p = D.length then w.heap.size else E p) (fun p => if p = D.length then r else R p) v' B ∧ Fr (fun i => i = T ∨ i = M ∨ ov.ownBlock = some i) w w' := by
  obtain ⟨a, c, rfl⟩ := ownsRow_slice h.ord
  obtain ⟨o, hrun, hm⟩ := update_miss h.map h.ok hk hn w.heap.size
  have hM : M < w.heap.size := by obtain ⟨_, _, h1, _⟩ := h.map; exact lt_of_heap h1
  have hT := lt_of_heap h.tab
  have h0 : w.cell? ⟨T, 0, none⟩ = some (.map (some M)) := cell_of_heap h.tab rfl
  have h1 : w.cell? ⟨T, 1, none⟩ = some (.slice a D.length c) := cell_of_heap h.tab rfl
  have hTM : T ≠ M := by
    intro e
    obtain ⟨_, _, h2, _⟩ := h.map
    have := h.tab
    rw [e, h2] at this
    simp at this
  obtain ⟨w2, hw2⟩ : ∃ w2, w2 = setBlock (w.alloc (.cells (entryCells k r D.length) 51)) M o := ⟨_, rfl⟩
  have hrun2 := hrun (w.alloc (.cells (entryCells k r D.length) 51)) (Below.heap_alloc _ _ _ hM)
  rw [← hw2] at hrun2
  have f2 : Fr (fun i => i = M) w w2 := by
    rw [hw2]
    exact Fr.setBlock (S := fun i => i = M) ((Fr.refl _ w).alloc _) (.inl rfl) _
  have hz2 : w2.heap.size = w.heap.size + 1 := by rw [hw2, size_setBlock]; simp
  have ht2 := f2.at h.tab hTM
  have c0 : w2.cell? ⟨T, 0, none⟩ = some (.map (some M)) := cell_of_heap ht2 rfl
  have c1 : w2.cell? ⟨T, 1, none⟩ = some (.slice a D.length c) := cell_of_heap ht2 rfl
  have hown2 : w2.ownsRow B 29 1 (.slice a D.length c) D.length (ordRow D.length E) := ownsRow_fr h.ord f2 (by
    intro g hg e
    subst e
    obtain ⟨_, _, h2, _⟩ := h.map
    rcases h.ord.2 with ⟨e1, _⟩ | ⟨g', _, _, e1, _, e2, _⟩
    · simp at e1; simp [e1, Value.ownBlock] at hg
    · simp at e1
      obtain ⟨rfl, _⟩ := e1
      simp [Value.ownBlock] at hg
      subst hg
      rw [h2] at e2; simp at e2)
  have HW2 : Hid (w2 = setBlock (w.alloc (.cells (entryCells k r D.length) 51)) M o) := hw2
  have HM := hide hm
  have HT := hide h
  have HO := hide hown2
  have HT2 := hide ht2
  clear hw2 hm h hown2 hrun f2 ht2
  unfold entryCells keyV at hrun2
  obtain ⟨i0, hi, hz0, hz1, hz2'⟩ := info_parts Try.info29
  go_enter Try.func7, Try.ntmps7
  go_wp2_with (at_builtin; go_must (refine wpList_append_own _ rfl _ _ 32 rfl B 29 i0 (.pointer none) 1 8 Try.underlying32 hi hz0 hz1 hz2' rfl (by decide) _ _ _ rfl (HO.out.alloc _) ⟨w.heap.size + 1, 0, none⟩ 1 1 [ptr w.heap.size] rfl rfl ?c1 ?c2 ?c3 ?c4 ?c5 ?_))
  case c1 =>
    intro j u hj
    match j, hj with
    | 0, hj =>
      simp at hj
      subst hj
      simp only [Addr.add]
      exact cell_new hz2
    | j + 1, hj => simp at hj
  case c2 => intro u hu; simp at hu; subst hu; rfl
  case c3 => unfold maxLen; omega
  case c4 => omega
  case c5 => simp; omega
  intro v' w3 hown' hgrow _
  have hTab := tab_open HT.out hk hn r hB HM.out HW2.out hown' hgrow
  have ht3 : w3.heap[T]? = some (.cells #[.map (some M), .slice a D.length c, .map (some L), .bool sh] 41 (0, 0)) := by
    rw [hgrow.block T (by simp; omega) ?_, Below.heap_alloc _ _ _ (by omega)]
    · exact HT2.out
    · intro e
      obtain ⟨_, cur, h1⟩ := HT.out.ownBlock_at e.symm
      rw [HT.out.tab] at h1; simp at h1
  have d1 : w3.cell? ⟨T, 1, none⟩ = some (.slice a D.length c) := cell_of_heap ht3 rfl
  have d2 : w3.frozen? ⟨T, 1, none⟩ = false := free_of_heap ht3 1
  obtain ⟨a', c', rfl⟩ := ownsRow_slice hown'
  have HTab := hide hTab
  clear hTab ht3 hown' hgrow hrun2 HT HM HW2 HO HT2
  go_wp2
  go_ret
  exact ⟨rfl, _, HTab.out.1, HTab.out.2⟩

end Go.Proofs.Qxb6613157a
