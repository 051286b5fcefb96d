import Derived.Test.Qxb6613157aBytes
import Derived.Laws.LoneSync
import Derived.ProofKit
import Derived.Deep.Slices
import Derived.Deep.Strs
namespace Go.Proofs.Qxb6613157a
open Go.ChangeShapes Go.WideShapes Go.ChangeAt Go.RowKit Go.Deep

theorem Try.cells25 : Try.prog.cellsOf 25 = 3 := by kernel_rfl

theorem add_none (b o i : Nat) : (⟨b, o, none⟩ : Addr).add i = ⟨b, o + i, none⟩ := by
  by_cases h : i = 0 <;> simp [Addr.add, h]

/-- What the walk is told of a slice of keys that came in. -/
def IsKeys (w : World) (a : Option Addr) (len : Nat) (ks : Nat → Key3) : Prop :=
  len ≤ maxLen ∧ RawK w a len ks ∧ ∀ i, i < len → (ks i).ok

theorem open_keys {H : Type} {enc : TypeId × Value → H} {w : World} {base : Nat} {held : Bool} {fuel : Nat} {a : Option Addr} {len cap : Nat} {x : DataW H × List MemPlace}
    (h : DataW.trod enc Try.prog w base (fun _ => true) held fuel 22 [.slice a len cap] = some x) : ∃ ks, IsKeys w a len ks := by
  rcases open_slice Try.underlying22 h with ⟨hcs, _⟩ | ⟨x0, l, c, m, n, D, Pl, hcs, _, hl, hm, hmm, _, hel⟩
  · simp at hcs
    obtain ⟨rfl, rfl, rfl⟩ := hcs
    exact ⟨fun _ => (ByteArray.empty, ByteArray.empty, ByteArray.empty), by unfold maxLen; omega, fun i hi => absurd hi (by omega), fun i hi => absurd hi (by omega)⟩
  · simp at hcs
    obtain ⟨rfl, rfl, rfl⟩ := hcs
    simp at hmm
    subst hmm
    have each : ∀ i, i < len → ∃ k : Key3, k.ok ∧ w.cell? ((x0.add (i * 3)).add 0) = some (.string k.1) ∧ w.cell? ((x0.add (i * 3)).add 1) = some (.string k.2.1) ∧ w.cell? ((x0.add (i * 3)).add 2) = some (.string k.2.2) := by
      intro i hi
      obtain ⟨cs', h1, h2⟩ := hel i (by omega)
      rw [Try.cells25] at h1
      obtain ⟨y0, y1, y2, n', _, hlen, t0, t1, t2⟩ := trod_struct3 Try.underlying25 h2
      rw [Try.cells25] at hlen
      obtain ⟨s0, e0, _, k0⟩ := DataW.trod_string Try.underlying9 t0
      obtain ⟨s1, e1, _, k1⟩ := DataW.trod_string Try.underlying9 t1
      obtain ⟨s2, e2, _, k2⟩ := DataW.trod_string Try.underlying9 t2
      obtain ⟨c0, c1, c2, rfl⟩ : ∃ c0 c1 c2, cs' = [c0, c1, c2] := by
        match cs', hlen with
        | [c0, c1, c2], _ => exact ⟨c0, c1, c2, rfl⟩
      simp [Try.cells9] at e0 e1 e2
      subst e0 e1 e2
      obtain ⟨_, _, hc⟩ := World.cells?_some h1
      exact ⟨(s0, s1, s2), ⟨k0, k1, k2⟩, hc 0 (by omega), hc 1 (by omega), hc 2 (by omega)⟩
    obtain ⟨ks, hks⟩ := @choose_lt Key3 ⟨(ByteArray.empty, ByteArray.empty, ByteArray.empty)⟩ _ _ each
    refine ⟨ks, by omega, fun i hi => ?_, fun i hi => (hks i hi).1⟩
    obtain ⟨b, o, sp⟩ := x0
    have hsp : sp = none := by
      have h0 := (hks 0 (by omega)).2.1
      obtain ⟨_, _, _, _, h⟩ := World.shape?_of_cell? h0
      simpa [Addr.add] using h
    subst hsp
    have e : ∀ d, ((⟨b, o, none⟩ : Addr).add (i * 3)).add d = ⟨b, o + i * 3 + d, none⟩ := by
      intro d
      rw [add_none, add_none]
    obtain ⟨_, q0, q1, q2⟩ := hks i hi
    rw [e] at q0 q1 q2
    exact ⟨b, o, rfl, q0, q1, q2⟩

end Go.Proofs.Qxb6613157a
