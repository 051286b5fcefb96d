import Derived.Test.Qxb6613157aInvB
namespace Go.Proofs.Qxb6613157a
open Go.RowKit Go.WideMaps

section
variable {w wc w8 w9 w10 : World} {T M L P Lb : Nat} {ks : Nat → Key3} {n : Nat} {bv : Value} {E0 : Nat → Nat} {j : Nat} {E : Nat → Nat} {R lf : Nat → Int}

theorem Inv6.hit_same {ov : Value} (h : Inv6 w wc T M L P Lb false ks n ov bv E0 j E R lf) {p : Nat} {k : Key3} (hp : (dist ks n)[p]? = some k) (hk8 : Kp wc w8) (hk9 : Kp w8 w9)
    (hh : w10.heap[E p]? = some (.cells (entryCells k (1000000 + (j : Int)) p) 51 (0, 0))) (hf : Fr (fun i => i = E p) w9 w10) :
    w10.rowIs Lb 3 (dist ks n).length (fun p => .int .i64 (lf p)) ∧
    Inv6 w (w10.setCell ⟨Lb, p, none⟩ (.int .i64 j)) T M L P Lb false ks n ov bv E0 (j + 1) E (fun q => if q = p then 1000000 + (j : Int) else R q) (fun q => if q = p then (j : Int) else lf q) := by
  have hpl : p < (dist ks n).length := (List.getElem?_eq_some_iff.1 hp).1
  have k9 : Kp wc w9 := hk8.trans hk9
  have t9 := h.tab.kp k9
  have t10 := t9.setR hp hh hf
  have f : Fr (fun i => i = E p) wc w10 := (k9.mono (fun _ _ e => e.elim)).next hf (fun _ _ e => e)
  have he := h.tab.ent p k hp
  obtain ⟨_, _, _, a4⟩ := h.tab.row_apart h.pos
  obtain ⟨_, _, _, a4'⟩ := h.tab.row_apart h.last
  have sL : ¬ Lb = E p := fun e => a4' p hpl e.symm
  refine ⟨rowIs_fr h.last f sL, h.hit hp t10 f (fun e => a4 p hpl e.symm) sL ?_ ?_ (fun _ _ => rfl) (fun e => by cases e) (fun _ => rfl)⟩
  · intro g hg e
    obtain ⟨cur, hc⟩ := h.bef.block hg
    rw [e, he] at hc; simp at hc
  · intro i hi e
    have := h.tab.bE p hpl
    omega

theorem Inv6.hit_copy {g cap : Nat} (h : Inv6 w wc T M L P Lb true ks n (.slice (some ⟨g, 0, none⟩) (dist ks n).length cap) bv E0 j E R lf) {p : Nat} {k : Key3} (hp : (dist ks n)[p]? = some k)
    (ht : Tab w8 T M L true (dist ks n) (fun q => if q = p then wc.heap.size + 1 else E q) R (.slice (some ⟨g, 0, none⟩) (dist ks n).length cap) w.heap.size) (hf8 : Fr (fun i => i = M ∨ i = g) wc w8) (hk9 : Kp w8 w9)
    (hh : w10.heap[wc.heap.size + 1]? = some (.cells (entryCells k (1000000 + (j : Int)) p) 51 (0, 0))) (hf : Fr (fun i => i = wc.heap.size + 1) w9 w10) :
    w10.rowIs Lb 3 (dist ks n).length (fun p => .int .i64 (lf p)) ∧
    Inv6 w (w10.setCell ⟨Lb, p, none⟩ (.int .i64 j)) T M L P Lb true ks n (.slice (some ⟨g, 0, none⟩) (dist ks n).length cap) bv E0 (j + 1) (fun q => if q = p then wc.heap.size + 1 else E q) (fun q => if q = p then 1000000 + (j : Int) else R q) (fun q => if q = p then (j : Int) else lf q) := by
  have hpl : p < (dist ks n).length := (List.getElem?_eq_some_iff.1 hp).1
  have t9 := ht.kp hk9
  have t10 := t9.setR hp (w' := w10) (r := 1000000 + (j : Int)) (by simpa using hh) (by simpa using hf)
  have f9 : Fr (fun i => i = M ∨ i = g) wc w9 := hf8.next hk9 (fun _ _ e => e.elim)
  have f : Fr (fun i => i = M ∨ i = g) wc w10 := f9.next hf (fun i hi e => by omega)
  obtain ⟨_, a2, a3, _⟩ := h.tab.row_apart h.pos
  obtain ⟨_, a2', a3', _⟩ := h.tab.row_apart h.last
  obtain ⟨es, cl, hM⟩ := h.tab.map_at
  obtain ⟨bg, cur, hg⟩ := h.tab.ownBlock_at (g := g) rfl
  have sL : ¬ (Lb = M ∨ Lb = g) := by
    rintro (e | e)
    · exact a2' e
    · exact a3' (by rw [e]; rfl)
  refine ⟨rowIs_fr h.last f sL, h.hit hp t10 f ?_ sL ?_ ?_ (fun q hq => by simp [hq]) (fun _ => ⟨?_, ?_⟩) (fun e => by cases e)⟩
  · rintro (e | e)
    · exact a2 e
    · exact a3 (by rw [e]; rfl)
  · rintro b hb (e | e)
    · obtain ⟨cur', hc⟩ := h.bef.block hb
      rw [e, hM] at hc; simp at hc
    · exact h.bef.apart b hb (by rw [e]; rfl)
  · have := h.tab.bM
    rintro i hi (e | e) <;> omega
  · rintro q hq (e | e)
    · have := (h.old rfl).2.2 q _ (List.getElem?_eq_getElem hq)
      rw [e, hM] at this; simp at this
    · have := (h.old rfl).2.2 q _ (List.getElem?_eq_getElem hq)
      rw [e, hg] at this; simp at this
  · intro q hq
    have := lt_of_heap ((h.old rfl).2.2 q _ (List.getElem?_eq_getElem hq))
    simp only [if_true]
    omega
end

end Go.Proofs.Qxb6613157a
