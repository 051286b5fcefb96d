import Derived.Test.Qxb6613157aChange
namespace Go.Proofs.Qxb6613157a
open Go.RowKit Go.WideMaps

/-! ### ZZsessionChange hands on -/
theorem zchange_of {w : World} {T : Nat} {k : Key3} {Q : Ending → World → Prop} (h : Calls Try.prog 13 #[ptr T, keyV k] w Q) (hq : ∀ e w', Q e w' → ∃ b, e = .returned (.pointer b)) :
    Calls Try.prog 10 #[ptr T, .string k.1, .string k.2.1, .string k.2.2] w Q := by
  have H := hide h
  clear h
  unfold keyV at H
  go_enter Try.func10, Try.ntmps10
  go_wp2_with fail
  refine H.out.mono ?_
  intro e w' hQ
  obtain ⟨b, rfl⟩ := hq e w' hQ
  have HQ := hide hQ
  clear hQ
  go_wp2_with fail
  exact HQ

end Go.Proofs.Qxb6613157a
