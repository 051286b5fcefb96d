import Derived.Test.Qxb6613157aInv
namespace Go.Proofs.Qxb6613157a
open Go.RowKit Go.WideMaps

theorem Bef.fr {S : Nat → Prop} {w wc w' : World} {ov bv : Value} {N : Nat} {E0 : Nat → Nat} (h : Bef w wc ov bv N E0) (k : Fr S wc w') (hs : ∀ g, bv.ownBlock = some g → ¬ S g) : Bef w w' ov bv N E0 :=
  ⟨ownsRow_fr h.row k hs, h.apart⟩
theorem Bef.block {w wc : World} {ov bv : Value} {N : Nat} {E0 : Nat → Nat} (h : Bef w wc ov bv N E0) {g : Nat} (hg : bv.ownBlock = some g) : ∃ cur, wc.heap[g]? = some (.cells cur 29 (0, 0)) := ownBlock_of h.row hg
theorem Bef.lo {w wc : World} {ov bv : Value} {N : Nat} {E0 : Nat → Nat} (h : Bef w wc ov bv N E0) {g : Nat} (hg : bv.ownBlock = some g) : w.heap.size ≤ g := (h.row.lt g hg).1

theorem kp_cell {a b : World} (h : Kp a b) {p : Addr} {v : Value} (hc : a.cell? p = some v) : b.cell? p = some v :=
  (World.cell?_of_block (h.block p.block (World.block_lt_of_cell? a p hc) id)).trans hc
theorem first_next {ks : Nat → Key3} {q : Key3} {l : Nat} (h : Hid (∀ i', i' < l → ks i' ≠ q)) (hn : Hid (¬ ks l = q)) : Hid (∀ i', i' < l + 1 → ks i' ≠ q) := by
  intro i' hi' e
  by_cases h' : i' = l
  · subst h'; exact hn e
  · exact h i' (by omega) e
theorem sameKey_yes (a b : Key3) (h : a = b) (w : World) :
    Calls Try.prog 9 #[.agg #[.string a.1, .string a.2.1, .string a.2.2], .agg #[.string b.1, .string b.2.1, .string b.2.2]] w fun e w' => e = .returned (.bool true) ∧ Kp w w' := by
  have := sameKey_any a b w
  rw [decide_eq_true h] at this
  exact this
theorem sameKey_no (a b : Key3) (h : ¬ a = b) (w : World) :
    Calls Try.prog 9 #[.agg #[.string a.1, .string a.2.1, .string a.2.2], .agg #[.string b.1, .string b.2.1, .string b.2.2]] w fun e w' => e = .returned (.bool false) ∧ Kp w w' := by
  have := sameKey_any a b w
  rw [decide_eq_false h] at this
  exact this

/-! ### The loop that fills 'last' -/
structure Inv5 (w wr : World) (T M L P Lb : Nat) (sh : Bool) (ks : Nat → Key3) (n : Nat) (E0 : Nat → Nat) (R0 : Nat → Int) (ov bv : Value) (i : Nat) : Prop where
  i3 : Inv3 w wr T M L P sh ks n n E0 R0 ov
  bef : Bef w wr ov bv (dist ks n).length E0
  last : ∃ f, wr.rowIs Lb 3 (dist ks n).length f ∧ ∀ p, p < i → f p = .int .i64 (-1)
  ne : Lb ≠ P
  bL : w.heap.size ≤ Lb

theorem inv5_start {w wc : World} {T M L P : Nat} {sh : Bool} {ks : Nat → Key3} {n : Nat} {E0 : Nat → Nat} {R0 : Nat → Int} {ov bv : Value} (h : Inv3 w wc T M L P sh ks n n E0 R0 ov) (hb : Bef w wc ov bv (dist ks n).length E0) :
    Inv5 w (wc.alloc (.cells (madeCells #[.int .i64 0] (dist ks n).length) 3)) T M L P wc.heap.size sh ks n E0 R0 ov bv 0 where
  i3 := h.kp ((Fr.refl _ _).alloc _)
  bef := hb.fr (S := fun _ => False) ((Fr.refl _ _).alloc _) (fun _ _ => id)
  last := ⟨_, World.rowIs_made wc _ _ 3, fun p hp => absurd hp (by omega)⟩
  ne := by
    obtain ⟨f, hf, _⟩ := h.pos
    have := hf.lt
    omega
  bL := h.bel.size

theorem Inv5.step {w wr : World} {T M L P Lb : Nat} {sh : Bool} {ks : Nat → Key3} {n : Nat} {E0 : Nat → Nat} {R0 : Nat → Int} {ov bv : Value} {i : Nat} (h : Inv5 w wr T M L P Lb sh ks n E0 R0 ov bv i) :
    Inv5 w (wr.setCell ⟨Lb, i, none⟩ (.int .i64 (-1))) T M L P Lb sh ks n E0 R0 ov bv (i + 1) := by
  obtain ⟨f, hf, hp⟩ := h.last
  obtain ⟨f0, hf0, hp0⟩ := h.i3.pos
  obtain ⟨cL, hL⟩ := rowIs_heap hf
  obtain ⟨a1, a2, a3, a4⟩ := h.i3.tab.row_apart hf
  have fr : Fr (fun b => b = Lb) wr (wr.setCell ⟨Lb, i, none⟩ (.int .i64 (-1))) := Fr.setCell (S := fun b => b = Lb) (Fr.refl _ wr) (p := ⟨Lb, i, none⟩) (.inl rfl) _
  have hbl := h.bL
  refine ⟨⟨h.i3.tab.keep fr (fun e => a1 e.symm) (fun e => a2 e.symm) (fun g hg e => a3 (e ▸ hg)) (fun p hp e => a4 p hp e), h.i3.rep, ⟨f0, rowIs_fr hf0 fr (fun e => h.ne e.symm), hp0⟩, h.i3.bP, below_fr h.i3.bel fr h.i3.bel.size (fun b hb e => by omega)⟩,
    h.bef.fr fr ?_, ⟨_, hf.set i _, fun p hpi => ?_⟩, h.ne, h.bL⟩
  · intro g hg e
    subst e
    obtain ⟨cur, hc⟩ := h.bef.block hg
    rw [hL] at hc; simp at hc
  · by_cases e : p = i
    · simp [e]
    · simp only [if_neg e]
      exact hp p (by omega)

/-! ### The loop over the queries -/
structure Inv6 (w wr : World) (T M L P Lb : Nat) (sh : Bool) (ks : Nat → Key3) (n : Nat) (ov bv : Value) (E0 : Nat → Nat) (j : Nat) (E : Nat → Nat) (R lf : Nat → Int) : Prop where
  tab : Tab wr T M L sh (dist ks n) E R ov w.heap.size
  pos : wr.rowIs P 3 n (fun i => .int .i64 (posF ks i))
  bef : Bef w wr ov bv (dist ks n).length E0
  last : wr.rowIs Lb 3 (dist ks n).length (fun p => .int .i64 (lf p))
  ne : Lb ≠ P
  bP : w.heap.size ≤ P
  bL : w.heap.size ≤ Lb
  rep : ∀ p, p < (dist ks n).length → R p = if 0 ≤ lf p then 1000000 + lf p else (p : Int) + 1
  rng : ∀ p, p < (dist ks n).length → lf p = -1 ∨ (0 ≤ lf p ∧ lf p < j)
  old : sh = true → (∀ p, p < (dist ks n).length → lf p < 0 → E p = E0 p) ∧ (∀ p, p < (dist ks n).length → 0 ≤ lf p → ∀ q, q < (dist ks n).length → E p ≠ E0 q) ∧
    ∀ p k, (dist ks n)[p]? = some k → wr.heap[E0 p]? = some (.cells (entryCells k ((p : Int) + 1) p) 51 (0, 0))
  same : sh = false → ∀ p, p < (dist ks n).length → E p = E0 p
  bel : Below w.heap.size w wr

theorem inv6_start {w wr : World} {T M L P Lb : Nat} {sh : Bool} {ks : Nat → Key3} {n : Nat} {E0 : Nat → Nat} {R0 : Nat → Int} {ov bv : Value} (h : Inv5 w wr T M L P Lb sh ks n E0 R0 ov bv (dist ks n).length) :
    Inv6 w wr T M L P Lb sh ks n ov bv E0 0 E0 R0 (fun _ => -1) := by
  obtain ⟨f, hf, hp⟩ := h.last
  obtain ⟨f0, hf0, hp0⟩ := h.i3.pos
  refine ⟨h.i3.tab, hf0.congr hp0, h.bef, hf.congr hp, h.ne, h.i3.bP, h.bL, ?_, fun _ _ => .inl rfl, ?_, fun _ _ _ => rfl, h.i3.bel⟩
  · intro p hp
    simp [h.i3.rep p hp]
  · intro _
    refine ⟨fun _ _ _ => rfl, fun p _ h0 => absurd h0 (by simp), fun p k hk => ?_⟩
    have := h.i3.tab.ent p k hk
    rw [h.i3.rep p (List.getElem?_eq_some_iff.1 hk).1] at this
    exact this

section
variable {w wr : World} {T M L P Lb : Nat} {sh : Bool} {ks : Nat → Key3} {n : Nat} {ov bv : Value} {E0 : Nat → Nat} {j : Nat} {E : Nat → Nat} {R lf : Nat → Int}

theorem Inv6.kp {w' : World} (h : Inv6 w wr T M L P Lb sh ks n ov bv E0 j E R lf) (k : Kp wr w') : Inv6 w w' T M L P Lb sh ks n ov bv E0 j E R lf :=
  ⟨h.tab.kp k, rowIs_fr h.pos k id, h.bef.fr k (fun _ _ => id), rowIs_fr h.last k id, h.ne, h.bP, h.bL, h.rep, h.rng,
    fun e => ⟨(h.old e).1, (h.old e).2.1, fun p q hp => k.at ((h.old e).2.2 p q hp) id⟩, h.same, below_fr h.bel k h.bel.size (fun _ _ => id)⟩

theorem Inv6.next (h : Inv6 w wr T M L P Lb sh ks n ov bv E0 j E R lf) : Inv6 w wr T M L P Lb sh ks n ov bv E0 (j + 1) E R lf :=
  ⟨h.tab, h.pos, h.bef, h.last, h.ne, h.bP, h.bL, h.rep, fun p hp => by
    rcases h.rng p hp with e | ⟨e1, e2⟩
    · exact .inl e
    · exact .inr ⟨e1, by omega⟩, h.old, h.same, h.bel⟩
end

theorem Fr.next {S S' : Nat → Prop} {a b c : World} (h : Fr S a b) (k : Fr S' b c) (hs : ∀ i, i < a.heap.size → S' i → S i) : Fr S a c :=
  ⟨k.os.trans h.os, k.tape.trans h.tape, k.output.trans h.output, Nat.le_trans h.size k.size, fun i hi hn => (k.block i (Nat.lt_of_lt_of_le hi h.size) (fun e => hn (hs i hi e))).trans (h.block i hi hn)⟩

/-- setReports, on the table. -/
theorem Tab.setR {w w' : World} {T M L : Nat} {sh : Bool} {D : List Key3} {E : Nat → Nat} {R : Nat → Int} {ov : Value} {B : Nat} (h : Tab w T M L sh D E R ov B) {p : Nat} {k : Key3} (hp : D[p]? = some k) {r : Int}
    (hw : w'.heap[E p]? = some (.cells (entryCells k r p) 51 (0, 0))) (f : Fr (fun i => i = E p) w w') : Tab w' T M L sh D E (fun q => if q = p then r else R q) ov B := by
  have hpl : p < D.length := (List.getElem?_eq_some_iff.1 hp).1
  have he := h.ent p k hp
  obtain ⟨es, c, hM⟩ := h.map_at
  refine ⟨f.at h.tab ?_, h.map.of_heap (f.block M (lt_of_heap hM) ?_), ownsRow_fr h.ord f ?_, h.nil, ?_, h.inj, h.nodup, h.ok, h.bT, h.bM, h.bE⟩
  · intro e; have := h.tab; rw [e, he] at this; simp at this
  · intro e; rw [e, he] at hM; simp at hM
  · intro g hg e
    obtain ⟨_, cur, hc⟩ := h.ownBlock_at hg
    rw [e, he] at hc; simp at hc
  · intro q k' hq
    by_cases e : q = p
    · subst e
      have : k' = k := Option.some.inj (hq.symm.trans hp)
      subst this
      simp only [if_true]
      exact hw
    · simp only [if_neg e]
      exact f.at (h.ent q k' hq) (fun e' => e (h.inj q p (List.getElem?_eq_some_iff.1 hq).1 hpl e'))

/-- A query of a key that is there: what the table, 'posOf', the snapshot and 'last' hold behind it. -/
theorem Inv6.hit {w wr w2 : World} {T M L P Lb : Nat} {sh : Bool} {ks : Nat → Key3} {n : Nat} {ov bv : Value} {E0 : Nat → Nat} {j : Nat} {E E1 : Nat → Nat} {R lf : Nat → Int} {S : Nat → Prop}
    (h : Inv6 w wr T M L P Lb sh ks n ov bv E0 j E R lf) {p : Nat} {k : Key3} (hp : (dist ks n)[p]? = some k)
    (ht : Tab w2 T M L sh (dist ks n) E1 (fun q => if q = p then 1000000 + (j : Int) else R q) ov w.heap.size) (f : Fr S wr w2)
    (sP : ¬ S P) (sL : ¬ S Lb) (sB : ∀ g, bv.ownBlock = some g → ¬ S g) (sW : ∀ i, i < w.heap.size → ¬ S i)
    (hE : ∀ q, q ≠ p → E1 q = E q) (hs : sh = true → (∀ q, q < (dist ks n).length → ¬ S (E0 q)) ∧ (∀ q, q < (dist ks n).length → E1 p ≠ E0 q)) (hn : sh = false → E1 p = E p) :
    Inv6 w (w2.setCell ⟨Lb, p, none⟩ (.int .i64 j)) T M L P Lb sh ks n ov bv E0 (j + 1) E1 (fun q => if q = p then 1000000 + (j : Int) else R q) (fun q => if q = p then (j : Int) else lf q) := by
  have hpl : p < (dist ks n).length := (List.getElem?_eq_some_iff.1 hp).1
  have l2 := rowIs_fr h.last f sL
  obtain ⟨cL, hL⟩ := rowIs_heap l2
  obtain ⟨a1, a2, a3, a4⟩ := ht.row_apart l2
  have fr : Fr (fun b => b = Lb) w2 (w2.setCell ⟨Lb, p, none⟩ (.int .i64 j)) := Fr.setCell (S := fun b => b = Lb) (Fr.refl _ w2) (p := ⟨Lb, p, none⟩) (.inl rfl) _
  have hbl := h.bL
  have bel2 := below_fr h.bel f h.bel.size sW
  have b2 := h.bef.fr f sB
  refine ⟨ht.keep fr (fun e => a1 e.symm) (fun e => a2 e.symm) (fun g hg e => a3 (e ▸ hg)) (fun p hp e => a4 p hp e), rowIs_fr (rowIs_fr h.pos f sP) fr (fun e => h.ne e.symm), b2.fr fr ?_, (l2.set p _).congr ?_, h.ne, h.bP, h.bL, ?_, ?_, ?_, ?_, below_fr bel2 fr bel2.size (fun b hb e => by omega)⟩
  · intro g hg e
    subst e
    obtain ⟨cur, hc⟩ := b2.block hg
    rw [hL] at hc; simp at hc
  · intro q hq
    by_cases e : q = p <;> simp [e]
  · intro q hq
    by_cases e : q = p
    · simp [e]
    · simp only [if_neg e]
      exact h.rep q hq
  · intro q hq
    by_cases e : q = p
    · right; simp only [if_pos e]; omega
    · simp only [if_neg e]
      rcases h.rng q hq with e1 | ⟨e1, e2⟩
      · exact .inl e1
      · exact .inr ⟨e1, by omega⟩
  · intro es
    obtain ⟨o1, o2, o3⟩ := h.old es
    obtain ⟨s1, s2⟩ := hs es
    refine ⟨?_, ?_, ?_⟩
    · intro q hq hl
      by_cases e : q = p
      · simp only [if_pos e] at hl; omega
      · simp only [if_neg e] at hl
        rw [hE q e]
        exact o1 q hq hl
    · intro q hq hl q' hq'
      by_cases e : q = p
      · subst e; exact s2 q' hq'
      · simp only [if_neg e] at hl
        rw [hE q e]
        exact o2 q hq hl q' hq'
    · intro q k' hq
      have hql := (List.getElem?_eq_some_iff.1 hq).1
      have := f.at (o3 q k' hq) (s1 q hql)
      refine fr.at this ?_
      intro e
      rw [e, hL] at this; simp at this
  · intro es q hq
    by_cases e : q = p
    · subst e; rw [hn es]; exact h.same es q hq
    · rw [hE q e]; exact h.same es q hq

end Go.Proofs.Qxb6613157a
