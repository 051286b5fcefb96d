import Derived.Test.Qxb6613157aZch
import Derived.Test.Qxb6613157aPlain
import Derived.Deep.OwnRows
namespace Go.Proofs.Qxb6613157a
open Go.RowKit Go.WideMaps

theorem Try.info3 : (Try.prog.info? 3).map (fun i => (i.zero, i.size, i.bytes)) = some (some (.int .i64 0), 1, 8) := by kernel_rfl

theorem rowIs_fr {S : Nat → Prop} {w w' : World} {b : Nat} {t : TypeId} {n : Nat} {f : Nat → Value} (h : w.rowIs b t n f) (k : Fr S w w') (hs : ¬ S b) : w'.rowIs b t n f :=
  h.of_block (k.block b h.lt hs)
theorem rowIs_heap {w : World} {b : Nat} {t : TypeId} {n : Nat} {f : Nat → Value} (h : w.rowIs b t n f) : ∃ c, w.heap[b]? = some (.cells c t (0, 0)) := by
  obtain ⟨c, h1, _⟩ := h
  exact ⟨c, h1⟩
theorem below_fr {S : Nat → Prop} {B : Nat} {w wr w' : World} (h : Below B w wr) (k : Fr S wr w') (hB : B ≤ wr.heap.size) (hs : ∀ i, i < B → ¬ S i) : Below B w w' := h.trans (k.below hB hs)

section
variable {w : World} {T M L : Nat} {sh : Bool} {D : List Key3} {E : Nat → Nat} {R : Nat → Int} {ov : Value} {B : Nat}
/-- A row of ints is none of the table's blocks. -/
theorem Tab.row_apart (h : Tab w T M L sh D E R ov B) {P n : Nat} {f : Nat → Value} (hr : w.rowIs P 3 n f) : P ≠ T ∧ P ≠ M ∧ ov.ownBlock ≠ some P ∧ ∀ p, p < D.length → E p ≠ P := by
  obtain ⟨c, hc⟩ := rowIs_heap hr
  refine ⟨?_, ?_, ?_, ?_⟩
  · intro e; rw [e, h.tab] at hc; simp at hc
  · obtain ⟨es, cl, hM⟩ := h.map_at
    intro e; rw [e, hM] at hc; simp at hc
  · intro e
    obtain ⟨_, cur, hg⟩ := h.ownBlock_at e
    rw [hg] at hc; simp at hc
  · intro p hp e
    have := h.ent p _ (List.getElem?_eq_getElem hp)
    rw [e, hc] at this; simp at this
end

/-! ### The first loop over the keys: they are opened -/
structure Inv3 (w wr : World) (T M L P : Nat) (sh : Bool) (ks : Nat → Key3) (n j : Nat) (E : Nat → Nat) (R : Nat → Int) (ov : Value) : Prop where
  tab : Tab wr T M L sh (dist ks j) E R ov w.heap.size
  rep : ∀ p, p < (dist ks j).length → R p = (p : Int) + 1
  pos : ∃ f, wr.rowIs P 3 n f ∧ ∀ i, i < j → f i = .int .i64 (posF ks i)
  bP : w.heap.size ≤ P
  bel : Below w.heap.size w wr

theorem inv3_start {w w2 : World} {T M L : Nat} {sh : Bool} {ks : Nat → Key3} {n m : Nat} (ht : Tab w2 T M L sh [] (fun _ => 0) (fun _ => 0) (.slice none 0 0) (w.drewN m).heap.size) (hk : Kp (w.drewN m) w2) :
    Inv3 w (w2.alloc (.cells (madeCells #[.int .i64 0] n) 3)) T M L w2.heap.size sh ks n 0 (fun _ => 0) (fun _ => 0) (.slice none 0 0) where
  tab := ht.kp ((Fr.refl _ _).alloc _)
  rep := fun p hp => absurd hp (by simp [dist])
  pos := ⟨_, World.rowIs_made w2 _ n 3, fun i hi => absurd hi (by omega)⟩
  bP := hk.size
  bel := (((Fr.refl (fun _ => False) w).drewN m).trans (hk.alloc _)).below (Nat.le_refl _) (fun _ _ => id)

/-- A block is laid, and place j of 'posOf' is written. -/
theorem Inv3.mid {w wr : World} {T M L P : Nat} {sh : Bool} {ks : Nat → Key3} {n j : Nat} {E : Nat → Nat} {R : Nat → Int} {ov : Value} (h : Inv3 w wr T M L P sh ks n j E R ov) (o : Obj) (v : Value) :
    Tab ((wr.setCell ⟨P, j, none⟩ v).alloc o) T M L sh (dist ks j) E R ov w.heap.size ∧
    (∃ f, ((wr.setCell ⟨P, j, none⟩ v).alloc o).rowIs P 3 n f ∧ f j = v ∧ ∀ i, i < j → f i = .int .i64 (posF ks i)) ∧ Below w.heap.size w ((wr.setCell ⟨P, j, none⟩ v).alloc o) := by
  obtain ⟨f, hf, hp⟩ := h.pos
  obtain ⟨a1, a2, a3, a4⟩ := h.tab.row_apart hf
  have fr : Fr (fun i => i = P) wr ((wr.setCell ⟨P, j, none⟩ v).alloc o) := (Fr.setCell (S := fun i => i = P) (Fr.refl _ wr) (p := ⟨P, j, none⟩) (.inl rfl) v).alloc o
  refine ⟨h.tab.keep fr (fun e => a1 e.symm) (fun e => a2 e.symm) (fun g hg e => a3 (e ▸ hg)) (fun p hp e => a4 p hp e), ⟨_, (hf.set j v).alloc o, by simp, fun i hi => ?_⟩, ?_⟩
  · have : i ≠ j := by omega
    simp [this, hp i hi]
  · have hb := h.bP
    exact below_fr h.bel fr h.bel.size (fun i hi e => by omega)

/-- Place j of 'posOf' is written: of the places before it nothing turns. -/
theorem Inv3.touch {w wr : World} {T M L P : Nat} {sh : Bool} {ks : Nat → Key3} {n j : Nat} {E : Nat → Nat} {R : Nat → Int} {ov : Value} (h : Inv3 w wr T M L P sh ks n j E R ov) (v : Value) :
    Inv3 w (wr.setCell ⟨P, j, none⟩ v) T M L P sh ks n j E R ov := by
  obtain ⟨f, hf, hp⟩ := h.pos
  obtain ⟨a1, a2, a3, a4⟩ := h.tab.row_apart hf
  have fr : Fr (fun i => i = P) wr (wr.setCell ⟨P, j, none⟩ v) := Fr.setCell (S := fun i => i = P) (Fr.refl _ wr) (p := ⟨P, j, none⟩) (.inl rfl) v
  refine ⟨h.tab.keep fr (fun e => a1 e.symm) (fun e => a2 e.symm) (fun g hg e => a3 (e ▸ hg)) (fun p hp e => a4 p hp e), h.rep, ⟨_, hf.set j v, fun i hi => ?_⟩, h.bP, ?_⟩
  · have : i ≠ j := by omega
    simp [this, hp i hi]
  · have hb := h.bP
    exact below_fr h.bel fr h.bel.size (fun i hi e => by omega)

/-- The key was there. -/
theorem Inv3.dup {w wr : World} {T M L P : Nat} {sh : Bool} {ks : Nat → Key3} {n j : Nat} {E : Nat → Nat} {R : Nat → Int} {ov : Value} (h : Inv3 w wr T M L P sh ks n j E R ov) (hm : ks j ∈ dist ks j) (o : Obj) :
    Inv3 w ((wr.setCell ⟨P, j, none⟩ (.int .i64 (-1))).alloc o) T M L P sh ks n (j + 1) E R ov := by
  obtain ⟨h1, ⟨f, h2, h3, h4⟩, h5⟩ := h.mid o (.int .i64 (-1))
  refine ⟨by rw [dist_same ks j hm]; exact h1, by rw [dist_same ks j hm]; exact h.rep, ⟨f, h2, fun i hi => ?_⟩, h.bP, h5⟩
  by_cases e : i = j
  · subst e; rw [h3, posF_same ks i hm]
  · exact h4 i (by omega)

/-- The key was new: behind 'open'. -/
theorem Inv3.fresh {w wr w3 : World} {T M L P : Nat} {sh : Bool} {ks : Nat → Key3} {n j : Nat} {E E' : Nat → Nat} {R R' : Nat → Int} {ov v' : Value} (h : Inv3 w wr T M L P sh ks n j E R ov) (hm : ks j ∉ dist ks j) (o : Obj)
    (ht : Tab w3 T M L sh (dist ks j ++ [ks j]) E' R' v' w.heap.size) (hR : R' = fun p => if p = (dist ks j).length then ((dist ks j).length : Int) + 1 else R p)
    (hf : Fr (fun i => i = T ∨ i = M ∨ ov.ownBlock = some i) ((wr.setCell ⟨P, j, none⟩ (.int .i64 (dist ks j).length)).alloc o) w3) :
    Inv3 w w3 T M L P sh ks n (j + 1) E' R' v' := by
  obtain ⟨h1, ⟨f, h2, h3, h4⟩, h5⟩ := h.mid o (.int .i64 (dist ks j).length)
  obtain ⟨a1, a2, a3, a4⟩ := h1.row_apart h2
  refine ⟨by rw [dist_new ks j hm]; exact ht, ?_, ⟨f, rowIs_fr h2 hf ?_, fun i hi => ?_⟩, h.bP, ?_⟩
  · intro p hp
    rw [dist_new ks j hm] at hp
    simp at hp
    rw [hR]
    by_cases e : p = (dist ks j).length
    · subst e; simp
    · simp only [if_neg e]
      exact h.rep p (by omega)
  · rintro (e | e | e)
    · exact a1 e
    · exact a2 e
    · exact a3 e
  · by_cases e : i = j
    · subst e; rw [h3, posF_new ks i hm]
    · exact h4 i (by omega)
  · refine below_fr h5 hf h5.size ?_
    have b1 := h1.bT
    have b2 := h1.bM
    rintro i hi (e | e | e)
    · omega
    · omega
    · obtain ⟨b3, _⟩ := h1.ownBlock_at e
      omega

/-! ### The snapshot -/
structure Bef (w wc : World) (ov bv : Value) (N : Nat) (E0 : Nat → Nat) : Prop where
  row : wc.ownsRow w.heap.size 29 1 bv N (ordRow N E0)
  apart : ∀ g, bv.ownBlock = some g → ov.ownBlock ≠ some g

theorem Inv3.kp {w wr w' : World} {T M L P : Nat} {sh : Bool} {ks : Nat → Key3} {n j : Nat} {E : Nat → Nat} {R : Nat → Int} {ov : Value} (h : Inv3 w wr T M L P sh ks n j E R ov) (k : Kp wr w') : Inv3 w w' T M L P sh ks n j E R ov := by
  obtain ⟨f, hf, hp⟩ := h.pos
  exact ⟨h.tab.kp k, h.rep, ⟨f, rowIs_fr hf k id, hp⟩, h.bP, below_fr h.bel k h.bel.size (fun _ _ => id)⟩

theorem bef_made {w wc w' : World} {T M L P : Nat} {sh : Bool} {ks : Nat → Key3} {n : Nat} {E0 : Nat → Nat} {R : Nat → Int} {ov v' : Value} {N : Nat} (h : Inv3 w wc T M L P sh ks n n E0 R ov)
    (ho : w'.ownsRow wc.heap.size 29 1 v' N (ordRow N E0)) (hg : wc.grownBy w' none) : Inv3 w w' T M L P sh ks n n E0 R ov ∧ Bef w w' ov v' N E0 := by
  have k : Kp wc w' := Fr.grown (Fr.refl _ wc) hg (fun k e => by cases e)
  refine ⟨h.kp k, ⟨?_, ?_⟩⟩
  · obtain ⟨h1, h2⟩ := ho
    refine ⟨h1, ?_⟩
    rcases h2 with h2 | ⟨g, cap, cur, hv, hb, r⟩
    · exact .inl h2
    · exact .inr ⟨g, cap, cur, hv, Nat.le_trans h.bel.size hb, r⟩
  · intro g hg e
    have h1 := (ho.lt g hg).1
    obtain ⟨_, cur, h2⟩ := h.tab.ownBlock_at e
    have := lt_of_heap h2
    omega

theorem bef_nil (w wc : World) (ov : Value) (E0 : Nat → Nat) : Bef w wc ov (.slice none 0 0) 0 E0 :=
  ⟨World.ownsRow_nil _ _ _ _, fun g e => by simp [Value.ownBlock] at e⟩

end Go.Proofs.Qxb6613157a
