import Derived.Test.Qxb6626435aSort
namespace Go.Proofs.Qxb6626435a
open Go.RowKit Go.Sort
set_option linter.unusedVariables false

set_option maxHeartbeats 400000 in
theorem sort_none (ao : Option Addr) (c : Nat) (w : World) :
    Calls Try.prog 6 #[.slice ao 0 c] w fun e w' => ∃ S, e = .returned (.slice (some ⟨S, 0, none⟩) 0 0) ∧ Below w.heap.size w w' := by
  have hmk := make22 0 (by omega)
  have e0 : ((0 : Nat) : Int) = 0 := rfl
  rw [e0] at hmk
  clear e0
  go_enter Try.func6, Try.ntmps6
  go_wp2
  refine wp_loop_rounds 1 ?_
  rw [rounds_succ]
  go_wp2
  refine wp_loop_rounds 1 ?_
  rw [rounds_succ]
  go_wp2
  go_ret
  exact ⟨_, rfl, ((Below.refl _ _).alloc (Nat.le_refl _) _).alloc (by simp) _⟩
end Go.Proofs.Qxb6626435a
