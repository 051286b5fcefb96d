import Derived.Test.Qxb6613157aProg
import Derived.WalkKit
import Derived.WalkSpells
import Derived.WalkLawsBesides
import Derived.DeepKeys4
namespace Go.Proofs.Qxb6613157a
open Go.RowKit Go.WideMaps
open Go.ChangeMaps (setBlock)

theorem laidOut : laidOutB Try.prog = true := by kernel_rfl

/-- A key: site, id, mac. -/
abbrev Key3 : Type := ByteArray × ByteArray × ByteArray
def keyV (k : Key3) : Value := .agg #[.string k.1, .string k.2.1, .string k.2.2]
/-- Its strings are no longer than Go's strings can be. -/
def Key3.ok (k : Key3) : Prop := k.1.size ≤ maxLen ∧ k.2.1.size ≤ maxLen ∧ k.2.2.size ≤ maxLen
abbrev ptr (b : Nat) : Value := .pointer (some ⟨b, 0, none⟩)

theorem keyV_inj {a b : Key3} (h : keyV a = keyV b) : a = b := by
  obtain ⟨a1, a2, a3⟩ := a
  obtain ⟨b1, b2, b3⟩ := b
  simp [keyV] at h
  simp [h]

theorem law : KeyLaw Try.prog 43 := deep_law_laid laidOut (m := 2) (by decide) (of_decide_eq_true (by kernel_rfl)) (by kernel_rfl) (by kernel_rfl)

theorem Try.cells43 : Try.prog.cellsOf 43 = 3 := by kernel_rfl
theorem Try.cells9 : Try.prog.cellsOf 9 = 1 := by kernel_rfl
theorem Try.key43 : Try.prog.keyType 43 = true := by kernel_rfl

theorem lits43 (n : Nat) (k : Key3) (h : k.ok) : ∃ l, Try.prog.keyLits (n + 2) 43 (keyV k).cells.toList = some l := by
  obtain ⟨a, b, c⟩ := k
  obtain ⟨ha, hb, hc⟩ := h
  simp only at ha hb hc
  refine ⟨[.string a.data.toList, .string b.data.toList, .string c.data.toList], ?_⟩
  simp [Program.keyLits, Try.underlying43, Try.underlying9, Try.cells43, keyV, Value.cells, Try.cells9, ha, hb, hc]

theorem keyOf_keyV (k : Key3) (h : k.ok) : ∃ l, keyOf Try.prog 43 (keyV k) = some l := by
  obtain ⟨l, hl⟩ := lits43 84 k h
  refine ⟨.string (keyBytes l), ?_⟩
  have hf : (keyV k).formed Try.prog 43 = true := by simp [keyV, Value.formed, Try.underlying43, Try.cells43]
  simp [keyOf, Try.underlying43, Try.key43, hf]
  exact ⟨l, hl, rfl⟩

/-- The map at block M: key D[p] leads to the entry at block E p. -/
def mapIs (w : World) (M : Nat) (D : List Key3) (E : Nat → Nat) : Prop :=
  ∃ es clock, w.heap[M]? = some (.map es clock) ∧ es.size = D.length ∧ ∀ p k, D[p]? = some k → ∃ e, es[p]? = some e ∧ e.key = keyV k ∧ e.val = ptr (E p)

theorem mapIs.of_heap {w w' : World} {M : Nat} {D : List Key3} {E : Nat → Nat} (h : mapIs w M D E) (e : w'.heap[M]? = w.heap[M]?) : mapIs w' M D E := by
  obtain ⟨es, c, h1, h2, h3⟩ := h
  exact ⟨es, c, e.trans h1, h2, h3⟩

section
variable {w : World} {M : Nat} {D : List Key3} {E : Nat → Nat}

theorem entry_key {es : Array MapEntry} (h2 : es.size = D.length) (h3 : ∀ p k, D[p]? = some k → ∃ e, es[p]? = some e ∧ e.key = keyV k ∧ e.val = ptr (E p))
    {j : Nat} {e : MapEntry} (he : es[j]? = some e) : ∃ k, D[j]? = some k ∧ e.key = keyV k ∧ e.val = ptr (E j) := by
  have hj : j < D.length := by
    have := (Array.getElem?_eq_some_iff.1 he).1
    omega
  obtain ⟨e', a, b, c⟩ := h3 j D[j] (List.getElem?_eq_getElem hj)
  rw [he] at a
  obtain rfl := Option.some.inj a
  exact ⟨_, List.getElem?_eq_getElem hj, b, c⟩

theorem keys_law {es : Array MapEntry} (hok : ∀ k ∈ D, k.ok) (h2 : es.size = D.length) (h3 : ∀ p k, D[p]? = some k → ∃ e, es[p]? = some e ∧ e.key = keyV k ∧ e.val = ptr (E p)) :
    ∀ e ∈ es.toList, ∃ l, keyOf Try.prog 43 e.key = some l := by
  intro e he
  obtain ⟨j, hj⟩ := List.mem_iff_getElem?.1 he
  obtain ⟨k, hk, hkey, _⟩ := entry_key h2 h3 (by simpa using hj : es[j]? = some e)
  rw [hkey]
  exact keyOf_keyV k (hok k (List.mem_of_getElem? hk))

theorem lookup_hit (h : mapIs w M D E) (hok : ∀ k ∈ D, k.ok) (hnd : D.Nodup) {p : Nat} {k : Key3} (hp : D[p]? = some k) {wx : World} (hw : wx.heap[M]? = w.heap[M]?) :
    (Instr.lookup 38 (.map (some M)) (keyV k) false).run Try.prog wx = .ok (ptr (E p)) wx := by
  obtain ⟨es, c, h1, h2, h3⟩ := h
  have hk : k.ok := hok k (List.mem_of_getElem? hp)
  obtain ⟨l, hl⟩ := keyOf_keyV k hk
  have hb := hw.trans h1
  rcases law.find wx hl es.toList (keys_law hok h2 h3) with ⟨f1, f2⟩ | ⟨j, e, f1, f2, f3⟩
  · obtain ⟨e, he, hek, _⟩ := h3 p k hp
    exact absurd hek (f2 e (by rw [List.mem_iff_getElem?]; exact ⟨p, by simpa using he⟩))
  · obtain ⟨k', hk', hkey, hval⟩ := entry_key h2 h3 (by simpa using f2 : es[j]? = some e)
    have : k' = k := keyV_inj (hkey.symm.trans f3)
    subst this
    have hjp : j = p := (List.getElem?_inj (List.getElem?_eq_some_iff.1 hk').1 hnd).1 (hk'.trans hp.symm)
    subst hjp
    simp [Instr.lookup, run_underlying Try.underlying38, MapKept.run_getObj_map hb, law.check wx _ hl, f1, hval, Result.andThen]

theorem lookup_miss (h : mapIs w M D E) (hok : ∀ k ∈ D, k.ok) {k : Key3} (hk : k.ok) (hn : k ∉ D) {wx : World} (hw : wx.heap[M]? = w.heap[M]?) :
    (Instr.lookup 38 (.map (some M)) (keyV k) false).run Try.prog wx = .ok (.pointer none) wx := by
  obtain ⟨es, c, h1, h2, h3⟩ := h
  obtain ⟨l, hl⟩ := keyOf_keyV k hk
  have hb := hw.trans h1
  rcases law.find wx hl es.toList (keys_law hok h2 h3) with ⟨f1, f2⟩ | ⟨j, e, f1, f2, f3⟩
  · simp [Instr.lookup, run_underlying Try.underlying38, MapKept.run_getObj_map hb, law.check wx _ hl, f1, Result.andThen]
  · obtain ⟨k', hk', hkey, hval⟩ := entry_key h2 h3 (by simpa using f2 : es[j]? = some e)
    have : k' = k := keyV_inj (hkey.symm.trans f3)
    subst this
    exact absurd (List.mem_of_getElem? hk') hn

/-- A store of a new key. -/
theorem update_miss (h : mapIs w M D E) (hok : ∀ k ∈ D, k.ok) {k : Key3} (hk : k.ok) (hn : k ∉ D) (b : Nat) :
    ∃ o, (∀ wx : World, wx.heap[M]? = w.heap[M]? → (Instr.mapUpdate 38 (.map (some M)) (keyV k) (ptr b)).run Try.prog wx = .ok () (setBlock wx M o)) ∧ ∀ w', w'.heap[M]? = some o → mapIs w' M (D ++ [k]) (fun p => if p = D.length then b else E p) := by
  obtain ⟨es, c, h1, h2, h3⟩ := h
  obtain ⟨l, hl⟩ := keyOf_keyV k hk
  have hfind : ∀ wx : World, (Instr.findKey 43 (keyV k) es.toList).run Try.prog wx = .ok none wx := by
    intro wx
    rcases law.find wx hl es.toList (keys_law hok h2 h3) with ⟨f1, f2⟩ | ⟨j, e, f1, f2, f3⟩
    · exact f1
    · obtain ⟨k', hk', hkey, hval⟩ := entry_key h2 h3 (by simpa using f2 : es[j]? = some e)
      have : k' = k := keyV_inj (hkey.symm.trans f3)
      subst this
      exact absurd (List.mem_of_getElem? hk') hn
  refine ⟨.map (es.push ⟨keyV k, ptr b, c⟩) (c + 1), fun wx hwx => ?_, fun w' hw' => ⟨_, _, hw', by simp [h2], ?_⟩⟩
  · have hb := hwx.trans h1
    simp [Instr.mapUpdate, run_underlying Try.underlying38, MapKept.run_getObj_map hb, law.check wx false hl, hfind wx, MapKept.run_setObj_map _ hb, Result.andThen, setBlock]
  · intro p k' hp
    by_cases e : p = D.length
    · subst e
      simp at hp
      subst hp
      exact ⟨⟨keyV k, ptr b, c⟩, by rw [← h2]; simp, rfl, by simp⟩
    · have hlt : p < D.length := by
        have := (List.getElem?_eq_some_iff.1 hp).1
        simp at this
        omega
      rw [List.getElem?_append_left hlt] at hp
      obtain ⟨e', a, b', c'⟩ := h3 p k' hp
      exact ⟨e', by rw [Array.getElem?_push, if_neg (by omega)]; exact a, b', by simp [e, c']⟩

/-- A store at a key that is there. -/
theorem update_hit (h : mapIs w M D E) (hok : ∀ k ∈ D, k.ok) (hnd : D.Nodup) {p : Nat} {k : Key3} (hp : D[p]? = some k) (b : Nat) :
    ∃ o, (∀ wx : World, wx.heap[M]? = w.heap[M]? → (Instr.mapUpdate 38 (.map (some M)) (keyV k) (ptr b)).run Try.prog wx = .ok () (setBlock wx M o)) ∧ ∀ w', w'.heap[M]? = some o → mapIs w' M D (fun q => if q = p then b else E q) := by
  obtain ⟨es, c, h1, h2, h3⟩ := h
  have hk : k.ok := hok k (List.mem_of_getElem? hp)
  obtain ⟨l, hl⟩ := keyOf_keyV k hk
  have hfind : ∀ wx : World, ∃ v, (Instr.findKey 43 (keyV k) es.toList).run Try.prog wx = .ok (some (p, v)) wx := by
    intro wx
    rcases law.find wx hl es.toList (keys_law hok h2 h3) with ⟨f1, f2⟩ | ⟨j, e, f1, f2, f3⟩
    · obtain ⟨e, he, hek, _⟩ := h3 p k hp
      exact absurd hek (f2 e (by rw [List.mem_iff_getElem?]; exact ⟨p, by simpa using he⟩))
    · obtain ⟨k', hk', hkey, hval⟩ := entry_key h2 h3 (by simpa using f2 : es[j]? = some e)
      have : k' = k := keyV_inj (hkey.symm.trans f3)
      subst this
      have hjp : j = p := (List.getElem?_inj (List.getElem?_eq_some_iff.1 hk').1 hnd).1 (hk'.trans hp.symm)
      subst hjp
      exact ⟨_, f1⟩
  obtain ⟨e0, he0, hk0, hv0⟩ := h3 p k hp
  refine ⟨.map (es.modify p (fun e' => { e' with key := keyV k, val := ptr b })) c, fun wx hwx => ?_, fun w' hw' => ⟨_, _, hw', by simp [h2], ?_⟩⟩
  · obtain ⟨v, f1⟩ := hfind wx
    have hb := hwx.trans h1
    simp [Instr.mapUpdate, run_underlying Try.underlying38, MapKept.run_getObj_map hb, law.check wx false hl, f1, he0, hk0, law.stays wx hl, MapKept.run_setObj_map _ hb, Result.andThen, setBlock]
  · intro q k' hq
    obtain ⟨e', a, b', c'⟩ := h3 q k' hq
    by_cases e : q = p
    · subst e
      have : k' = k := Option.some.inj (hq.symm.trans hp)
      subst this
      exact ⟨{ e' with key := keyV k', val := ptr b }, by rw [Array.getElem?_modify]; simp [a], rfl, by simp⟩
    · exact ⟨e', by rw [Array.getElem?_modify, if_neg (fun h => e h.symm)]; exact a, b', by simp [e, c']⟩
end

end Go.Proofs.Qxb6613157a
