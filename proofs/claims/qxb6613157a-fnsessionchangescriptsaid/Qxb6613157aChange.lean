import Derived.Test.Qxb6613157aOpen
namespace Go.Proofs.Qxb6613157a
open Go.RowKit Go.WideMaps
open Go.ChangeMaps (setBlock)

set_option maxHeartbeats 400000 in
theorem change_no {w : World} {T M L : Nat} {sh : Bool} {D : List Key3} {E : Nat → Nat} {R : Nat → Int} {ov : Value} {B : Nat} (h : Tab w T M L sh D E R ov B) (k : Key3) (hk : k.ok) (hn : k ∉ D) :
    Calls Try.prog 13 #[ptr T, keyV k] w fun e w' => e = .returned (.pointer none) ∧ Kp w w' := by
  have hM : M < w.heap.size := by obtain ⟨_, _, h1⟩ := h.map_at; exact lt_of_heap h1
  have hT := lt_of_heap h.tab
  have h0 : w.cell? ⟨T, 0, none⟩ = some (.map (some M)) := cell_of_heap h.tab rfl
  have hl : ∀ m, (Instr.lookup 38 (.map (some M)) (keyV k) false).run Try.prog ((w.alloc (.cells #[.string k.1, .string k.2.1, .string k.2.2] 43)).drewN m) = .ok (.pointer none) ((w.alloc (.cells #[.string k.1, .string k.2.1, .string k.2.2] 43)).drewN m) :=
    fun m => lookup_miss h.map h.ok hk hn (Below.heap_alloc _ _ _ hM)
  unfold keyV at hl
  clear h
  unfold keyV
  go_enter Try.func13, Try.ntmps13
  go_wp2
  go_quiet (fail)
  go_wp2
  go_ret
  exact ⟨rfl, ((Fr.refl _ w).alloc _).drewN _⟩

set_option maxHeartbeats 400000 in
theorem change_same {w : World} {T M L : Nat} {D : List Key3} {E : Nat → Nat} {R : Nat → Int} {ov : Value} {B : Nat} (h : Tab w T M L false D E R ov B) (k : Key3) (p : Nat) (hp : D[p]? = some k) :
    Calls Try.prog 13 #[ptr T, keyV k] w fun e w' => e = .returned (ptr (E p)) ∧ Kp w w' := by
  have hM : M < w.heap.size := by obtain ⟨_, _, h1⟩ := h.map_at; exact lt_of_heap h1
  have hT := lt_of_heap h.tab
  have h0 : w.cell? ⟨T, 0, none⟩ = some (.map (some M)) := cell_of_heap h.tab rfl
  have h3 : w.cell? ⟨T, 3, none⟩ = some (.bool false) := cell_of_heap h.tab rfl
  have hl : ∀ m, (Instr.lookup 38 (.map (some M)) (keyV k) false).run Try.prog ((w.alloc (.cells #[.string k.1, .string k.2.1, .string k.2.2] 43)).drewN m) = .ok (ptr (E p)) ((w.alloc (.cells #[.string k.1, .string k.2.1, .string k.2.2] 43)).drewN m) :=
    fun m => lookup_hit h.map h.ok h.nodup hp (Below.heap_alloc _ _ _ hM)
  unfold keyV at hl
  clear h
  unfold keyV
  go_enter Try.func13, Try.ntmps13
  go_wp2
  go_quiet (fail)
  go_wp2
  go_ret
  exact ⟨rfl, ((Fr.refl _ w).alloc _).drewN _⟩

theorem ordRow_set (n : Nat) (E : Nat → Nat) (p b : Nat) (hp : p < n) : (ordRow n E).set p (ptr b) = ordRow n (fun q => if q = p then b else E q) := by
  apply List.ext_getElem?
  intro i
  unfold ordRow
  rw [List.getElem?_set]
  by_cases e : p = i
  · subst e
    simp [hp]
  · have e' : ¬ i = p := fun h => e h.symm
    by_cases hi : i < n
    · simp [e, e', hi]
    · simp [e, hi]
theorem ordRow_length (n : Nat) (E : Nat → Nat) : (ordRow n E).length = n := by simp [ordRow]
theorem ordRow_at (n : Nat) (E : Nat → Nat) (p : Nat) (hp : p < n) : (ordRow n E)[p]? = some (ptr (E p)) := by simp [ordRow, hp]

/-- What 'change' does to a shared table. -/
theorem tab_change {w W3 w4 : World} {T M L : Nat} {D : List Key3} {E : Nat → Nat} {R : Nat → Int} {g cap : Nat} {B : Nat} (h : Tab w T M L true D E R (.slice (some ⟨g, 0, none⟩) D.length cap) B) {k : Key3} {p : Nat} (hp : D[p]? = some k) (hB : B ≤ w.heap.size)
    (fW : Kp w W3) (zW : W3.heap.size = w.heap.size + 1 + 1) (eW : W3.heap[w.heap.size + 1]? = some (.cells (entryCells k (R p) p) 51 (0, 0)))
    {o : Obj} (hm : ∀ w', w'.heap[M]? = some o → mapIs w' M D (fun q => if q = p then w.heap.size + 1 else E q)) (hw4 : w4 = setBlock W3.drew M o) :
    (w4.cell? ⟨T, 1, none⟩ = some (.slice (some ⟨g, 0, none⟩) D.length cap) ∧ w4.cell? ⟨w.heap.size + 1, 15, none⟩ = some (.int .i64 p) ∧ w4.cell? ⟨g, p, none⟩ = some (ptr (E p)) ∧ w4.frozen? ⟨g, p, none⟩ = false) ∧
    Tab (w4.setCell ⟨g, p, none⟩ (ptr (w.heap.size + 1))) T M L true D (fun q => if q = p then w.heap.size + 1 else E q) R (.slice (some ⟨g, 0, none⟩) D.length cap) B ∧
    Fr (fun i => i = M ∨ i = g) w (w4.setCell ⟨g, p, none⟩ (ptr (w.heap.size + 1))) := by
  obtain ⟨es, cl, hM⟩ := h.map_at
  have hpl : p < D.length := (List.getElem?_eq_some_iff.1 hp).1
  obtain ⟨_, cur, hgc⟩ := h.ownBlock_at (g := g) rfl
  have hMl := lt_of_heap hM
  have hTl := lt_of_heap h.tab
  have hgl := lt_of_heap hgc
  have hTM : T ≠ M := by intro e; have := h.tab; rw [e, hM] at this; simp at this
  have hTg : T ≠ g := by intro e; have := h.tab; rw [e, hgc] at this; simp at this
  have hgM : g ≠ M := by intro e; have := hgc; rw [e, hM] at this; simp at this
  have f4 : Fr (fun i => i = M) w w4 := by
    rw [hw4]
    exact Fr.setBlock (S := fun i => i = M) ((fW.mono (fun _ _ e => e.elim)).drew) (.inl rfl) _
  have f5 : Fr (fun i => i = M ∨ i = g) w (w4.setCell ⟨g, p, none⟩ (ptr (w.heap.size + 1))) :=
    Fr.setCell (S := fun i => i = M ∨ i = g) (f4.mono (fun _ _ e => .inl e)) (p := ⟨g, p, none⟩) (.inl (.inr rfl)) _
  have t4 := f4.at h.tab hTM
  have e4 : w4.heap[w.heap.size + 1]? = some (.cells (entryCells k (R p) p) 51 (0, 0)) := by
    rw [hw4, heap_setBlock_other _ _ _ _ (by omega)]
    exact eW
  have m4 : w4.heap[M]? = some o := by
    rw [hw4]
    exact heap_setBlock_self _ _ _ (by show M < W3.heap.size; omega)
  have o4 : w4.ownsRow B 29 1 (.slice (some ⟨g, 0, none⟩) D.length cap) D.length (ordRow D.length E) := ownsRow_fr h.ord f4 (by
    intro g' hg' e
    simp [Value.ownBlock] at hg'
    omega)
  have hEl : ∀ q, q < D.length → E q < w.heap.size := fun q hq => lt_of_heap (h.ent q _ (List.getElem?_eq_getElem hq))
  refine ⟨⟨cell_of_heap t4 rfl, cell_of_heap e4 rfl, ?_, o4.frozenAt p⟩, ?_, f5⟩
  · rw [o4.cellAt p (by omega), ordRow_at _ _ _ hpl]
  constructor
  · rw [Below.heap_setCell _ _ _ _ hTg]
    exact t4
  · apply hm
    rw [Below.heap_setCell _ _ _ _ (fun e => hgM e.symm)]
    exact m4
  · have := (o4.stored p (ptr (w.heap.size + 1))).1
    rw [ordRow_set _ _ _ _ hpl] at this
    exact this
  · exact h.nil
  · intro q k' hq
    by_cases e : q = p
    · subst e
      have : k' = k := Option.some.inj (hq.symm.trans hp)
      subst this
      simp only [if_true]
      rw [Below.heap_setCell _ _ _ _ (by show w.heap.size + 1 ≠ g; omega)]
      exact e4
    · simp only [if_neg e]
      have he := h.ent q k' hq
      refine f5.at he ?_
      rintro (e1 | e1)
      · rw [e1, hM] at he; simp at he
      · rw [e1, hgc] at he; simp at he
  · intro q1 q2 h1 h2
    by_cases e1 : q1 = p <;> by_cases e2 : q2 = p
    · intro _; omega
    · simp only [if_pos e1, if_neg e2]
      have := hEl q2 h2
      omega
    · simp only [if_neg e1, if_pos e2]
      have := hEl q1 h1
      omega
    · simp only [if_neg e1, if_neg e2]
      exact h.inj q1 q2 h1 h2
  · exact h.nodup
  · exact h.ok
  · exact h.bT
  · exact h.bM
  · intro q hq
    by_cases e : q = p
    · simp only [if_pos e]; omega
    · simp only [if_neg e]
      exact h.bE q hq

set_option maxHeartbeats 400000 in
theorem change_copy {w : World} {T M L : Nat} {D : List Key3} {E : Nat → Nat} {R : Nat → Int} {g cap : Nat} {B : Nat} (h : Tab w T M L true D E R (.slice (some ⟨g, 0, none⟩) D.length cap) B) (k : Key3) (p : Nat) (hp : D[p]? = some k) (hB : B ≤ w.heap.size) (_hlen : D.length ≤ 4096) :
    Calls Try.prog 13 #[ptr T, keyV k] w fun e w' => e = .returned (ptr (w.heap.size + 1)) ∧ Tab w' T M L true D (fun q => if q = p then w.heap.size + 1 else E q) R (.slice (some ⟨g, 0, none⟩) D.length cap) B ∧ Fr (fun i => i = M ∨ i = g) w w' := by
  obtain ⟨o, hrun, hm⟩ := update_hit h.map h.ok h.nodup hp (w.heap.size + 1)
  have hpl : p < D.length := (List.getElem?_eq_some_iff.1 hp).1
  have hM : M < w.heap.size := by obtain ⟨_, _, h1⟩ := h.map_at; exact lt_of_heap h1
  have hT := lt_of_heap h.tab
  have h0 : w.cell? ⟨T, 0, none⟩ = some (.map (some M)) := cell_of_heap h.tab rfl
  have h3 : w.cell? ⟨T, 3, none⟩ = some (.bool true) := cell_of_heap h.tab rfl
  have hl : ∀ m, (Instr.lookup 38 (.map (some M)) (keyV k) false).run Try.prog ((w.alloc (.cells #[.string k.1, .string k.2.1, .string k.2.2] 43)).drewN m) = .ok (ptr (E p)) ((w.alloc (.cells #[.string k.1, .string k.2.1, .string k.2.2] 43)).drewN m) :=
    fun m => lookup_hit h.map h.ok h.nodup hp (Below.heap_alloc _ _ _ hM)
  have hE := h.ent p k hp
  have hEl := lt_of_heap hE
  have e0 : w.cell? ⟨E p, 0, none⟩ = some (.string k.1) := cell_of_heap hE rfl
  have e1 : w.cell? ⟨E p, 1, none⟩ = some (.string k.2.1) := cell_of_heap hE rfl
  have e2 : w.cell? ⟨E p, 2, none⟩ = some (.string k.2.2) := cell_of_heap hE rfl
  have e3 : w.cell? ⟨E p, 3, none⟩ = some (.string ⟨#[]⟩) := cell_of_heap hE rfl
  have e4 : w.cell? ⟨E p, 4, none⟩ = some (.string ⟨#[]⟩) := cell_of_heap hE rfl
  have e5 : w.cell? ⟨E p, 5, none⟩ = some (.int .u64 0) := cell_of_heap hE rfl
  have e6 : w.cell? ⟨E p, 6, none⟩ = some (.int .u64 0) := cell_of_heap hE rfl
  have e7 : w.cell? ⟨E p, 7, none⟩ = some (.int .i64 (R p)) := cell_of_heap hE rfl
  have e8 : w.cell? ⟨E p, 8, none⟩ = some (.int .u64 0) := cell_of_heap hE rfl
  have e9 : w.cell? ⟨E p, 9, none⟩ = some (.int .i64 0) := cell_of_heap hE rfl
  have e10 : w.cell? ⟨E p, 10, none⟩ = some (.pointer none) := cell_of_heap hE rfl
  have e11 : w.cell? ⟨E p, 11, none⟩ = some (.int .u64 0) := cell_of_heap hE rfl
  have e12 : w.cell? ⟨E p, 12, none⟩ = some (.int .i64 0) := cell_of_heap hE rfl
  have e13 : w.cell? ⟨E p, 13, none⟩ = some (.pointer none) := cell_of_heap hE rfl
  have e14 : w.cell? ⟨E p, 14, none⟩ = some (.bool false) := cell_of_heap hE rfl
  have e15 : w.cell? ⟨E p, 15, none⟩ = some (.int .i64 p) := cell_of_heap hE rfl
  unfold keyV at hl
  have HT := hide h
  have HM := hide hm
  have HR := hide hrun
  clear h hE hm hrun
  unfold keyV
  go_enter Try.func13, Try.ntmps13
  go_wp2
  go_quiet (fail)
  go_wp2
  generalize hW : (((w.alloc (Obj.cells #[Value.string k.fst, Value.string k.snd.fst, Value.string k.snd.snd] 43)).drewN nq).alloc _) = W3
  have fW : Kp w W3 := by rw [← hW]; exact (((Fr.refl _ w).alloc _).drewN nq).alloc _
  have zW : W3.heap.size = w.heap.size + 1 + 1 := by rw [← hW]; simp
  have eW : W3.heap[w.heap.size + 1]? = some (.cells (entryCells k (R p) p) 51 (0, 0)) := by
    rw [← hW]
    have := heap_alloc_new ((w.alloc (Obj.cells #[Value.string k.fst, Value.string k.snd.fst, Value.string k.snd.snd] 43)).drewN nq) (.cells (entryCells k (R p) p) 51 (0, 0))
    unfold entryCells at this ⊢
    simpa using this
  have kW : W3.heap[w.heap.size]? = some (.cells #[.string k.1, .string k.2.1, .string k.2.2] 43 (0, 0)) := by
    rw [← hW, Below.heap_alloc _ _ _ (by simp)]
    exact heap_alloc_new w _
  clear hW e0 e1 e2 e3 e4 e5 e6 e7 e8 e9 e10 e11 e12 e13 e14 e15 hl
  have g0 : W3.cell? ⟨T, 0, none⟩ = some (.map (some M)) := cell_of_heap (fW.at HT.out.tab id) rfl
  have k0 : W3.cell? ⟨w.heap.size, 0, none⟩ = some (.string k.1) := cell_of_heap kW rfl
  have k1 : W3.cell? ⟨w.heap.size, 1, none⟩ = some (.string k.2.1) := cell_of_heap kW rfl
  have k2 : W3.cell? ⟨w.heap.size, 2, none⟩ = some (.string k.2.2) := cell_of_heap kW rfl
  obtain ⟨w4, hw4⟩ : ∃ w4, w4 = setBlock W3.drew M o := ⟨_, rfl⟩
  have hup := HR.out W3.drew (fW.block M hM id)
  rw [← hw4] at hup
  unfold keyV at hup
  obtain ⟨⟨q1, q2, q3, q4⟩, hTab⟩ := tab_change HT.out hp hB fW zW eW HM.out hw4
  have HTab := hide hTab
  have HW := hide hw4
  clear hTab hw4 HM HR eW kW fW zW
  go_region
  go_wp2
  go_region
  go_wp2
  go_ret
  exact ⟨rfl, HTab.out.1.kp (Fr.refl _ _).drew, HTab.out.2.drew⟩

end Go.Proofs.Qxb6613157a
