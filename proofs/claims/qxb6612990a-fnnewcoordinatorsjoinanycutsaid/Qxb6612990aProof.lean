import Derived.Test.Qxb6612990aRows
import Derived.Test.Qxb6612990aNil
import Derived.ProofKit
import Derived.OpenShut
import Derived.ShutString
import Derived.ChangeOld
import Derived.SliceStrings
import Derived.Below
namespace Go.Proofs.Qxb6612990a.fnNewCoordinatorsJoinAnyCut
open Go.ChangeShapes Go.WideShapes Go.ChangeAt Go.RowKit
set_option linter.unusedVariables false

theorem own : ownKnob Try.prog.godebug = none := by kernel_rfl
theorem laidOut : laidOutB Try.prog = true := by kernel_rfl

/-- What the walk is told of the slice of strings that came in. -/
def IsRow (w : World) (a : Option Addr) (len cap : Nat) (f : Nat → ByteArray) : Prop :=
  (a = none ∧ len = 0 ∧ cap = 0) ∨ ∃ x, a = some x ∧ len ≤ maxLen ∧ Raw w (some x) len f

theorem walk (a0 : Option Addr) (len0 cap0 : Nat) (f : Nat → ByteArray) (a1 : Int) (w : World) (w0 : IsRow w a0 len0 cap0 f) :
    Calls Try.prog 3 #[.slice a0 len0 cap0, .int .i64 a1] w fun e w' => e = .returned (.bool true) ∧ Below w.heap.size w w' := by
  rcases w0 with ⟨rfl, rfl, rfl⟩ | ⟨x, rfl, hm, hr⟩
  · exact main_nil a1 w
  · by_cases hb : len0 ≤ 4096
    · exact main_some x len0 cap0 f a1 w hb hr
    · exact main_big (some x) len0 cap0 f a1 w hm hr (by omega)

set_option maxRecDepth 100000 in
theorem lifted (os : Os) (started : os.Started) (H : Type) (enc : TypeId × Value → H) :
    ReturnsInHanded {} Try.checked os 3 .any (Rows.fnNewCoordinatorsJoinAnyCutSpec.pre6 enc Try.prog Try.f3 Rows.fnNewCoordinatorsJoinAnyCutRow.domain false) (Rows.fnNewCoordinatorsJoinAnyCutSpec.post enc Try.prog Try.f3 false true false false) := by
  refine returnsInHanded_of_change (C := Try.checked) own started (by kernel_rfl) Try.func3
    (ChangeSpec.witness6 (enc := enc) (C := Try.checked) false ⟨#[], #[.slice none 0 0, .int .i64 0], []⟩ 8 (by kernel_rfl) (by kernel_rfl) (by kernel_rfl) (by kernel_rfl)) ?_
  intro W base args ds gs before hval0 hW hcnd _
  have hval : ∀ (j : Nat) t v, Try.f3.params[j]? = some t → args[j]? = some v → Value.okWide Try.prog W .any base t v := hval0
  have hW' := hW
  obtain ⟨p, q, hA0, hV, rfl, hfz, hnd⟩ := hW
  have hA : DataW.TrodAll enc Try.prog W 0 (fun _ => true) true Try.f3.params.toList args.toList ds p := hA0
  rw [Try.params3] at hA hval
  obtain ⟨v0, vs0, d0, ds0, p0, q0, hargs, rfl, rfl, h0, r0⟩ := trodAll_cons hA
  obtain ⟨v1, vs1, d1, ds1, p1, q1, rfl, rfl, rfl, h1, r1⟩ := trodAll_cons r0
  obtain ⟨rfl, rfl, rfl⟩ := trodAll_nil r1
  obtain rfl : args = #[v0, v1] := by cases args; simp_all
  obtain ⟨rfl, rfl⟩ := trodVars_none hV
  obtain ⟨a0, len0, cap0, rfl⟩ := okWide_slice Try.underlying22 (hval 0 22 v0 rfl rfl)
  have k0 := h0
  have lt0 : ∀ x ∈ p0, x.block < W.heap.size := by obtain ⟨m, hm⟩ := k0; exact DataW.trod_lt m _ _ _ hm
  obtain ⟨f, w0⟩ : ∃ f, IsRow W a0 len0 cap0 f := by
    obtain ⟨fuel, hf⟩ := h0
    rcases open_strings Try.underlying22 Try.underlying9 (by kernel_rfl) hf with ⟨hcs, _⟩ | ⟨x, l, c, ss, hcs, _, hl, hm, hz, _, hcell, hws⟩
    · simp [Value.cells] at hcs
      obtain ⟨rfl, rfl, rfl⟩ := hcs
      exact ⟨fun _ => ByteArray.empty, .inl ⟨rfl, rfl, rfl⟩⟩
    · simp [Value.cells] at hcs
      obtain ⟨rfl, rfl, rfl⟩ := hcs
      have hzz : ss.length = cap0 := by simpa using hz
      refine ⟨fun i => ss.getD i ByteArray.empty, .inr ⟨_, rfl, by omega, ?_⟩⟩
      intro i hi
      have hc := hcell i (by omega)
      have hc0 := hcell 0 (by omega)
      obtain ⟨b, o, sp⟩ := x
      have hsp : sp = none := by
        obtain ⟨_, _, _, _, h⟩ := World.shape?_of_cell? hc0
        simpa [Addr.add] using h
      subst hsp
      have e : (⟨b, o, none⟩ : Addr).add i = ⟨b, o + i, none⟩ := by
        by_cases h0 : i = 0 <;> simp [Addr.add, h0]
      rw [e] at hc
      refine ⟨b, o, rfl, hc, ?_⟩
      refine hws _ ?_
      show ss.getD i ByteArray.empty ∈ ss
      have hi' : i < ss.length := by omega
      simp [List.getD, List.getElem?_eq_getElem hi']
  obtain ⟨a1, rfl, rfl, rfl, w1⟩ := open_int Try.underlying3 (hval 1 3 v1 rfl rfl) h1
  clear hA0 hval0
  refine (walk a0 len0 cap0 f a1 W w0).mono fun e W' ⟨he, bel⟩ => ?_
  subst he
  exact ⟨_, rfl, _, _, _, [], _, [], hW', trodAll_mk1 (shut_bool Try.underlying4 _), (trodAll_cons_mk (Below.trod laidOut (by kernel_rfl) (of_decide_eq_true (by kernel_rfl)) k0 bel lt0) (trodAll_cons_mk (shut_int Try.underlying3 w1) trodAll_mk0)), rfl, bel.frame _, fun h => by cases h⟩

theorem over : Rows.fnNewCoordinatorsJoinAnyCutRow.holds Try.pinned (OpenSpec.ofChange Rows.fnNewCoordinatorsJoinAnyCutSpec) :=
  OpenClaim.holds_of_wide 3 Try.f3 rfl rfl rfl rfl rfl rfl rfl ⟨rfl, rfl, rfl, rfl, rfl⟩ rfl rfl rfl rfl rfl (by kernel_rfl) Try.func3 (by kernel_rfl)
    (of_decide_eq_true (by kernel_rfl)) (by unfold Func.isWrapper; first | (rw [if_pos (by decide +kernel)]; kernel_rfl) | (rw [if_neg (by decide +kernel)]; exact ⟨rfl, rfl⟩))
    (fun os started H enc _ => lifted os started H enc)

theorem proved : Rows.FnNewCoordinatorsJoinAnyCutSaid := over
end Go.Proofs.Qxb6612990a.fnNewCoordinatorsJoinAnyCut

namespace Go.Proofs.Qxb6612990a
theorem fnNewCoordinatorsJoinAnyCut_proved : Rows.FnNewCoordinatorsJoinAnyCutSaid := fnNewCoordinatorsJoinAnyCut.proved
#print axioms fnNewCoordinatorsJoinAnyCut_proved
end Go.Proofs.Qxb6612990a
