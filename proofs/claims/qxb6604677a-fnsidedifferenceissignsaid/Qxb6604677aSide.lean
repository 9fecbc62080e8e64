/-
  side, and the two laws on it.
-/
import Derived.Test.Qxb6604677aRows
import Derived.WalkKit
import Derived.ProofKit
import Derived.OpenShut
namespace Go.Proofs.Qxb6604677a
open Go.RowKit Go.WideShapes
set_option linter.unusedVariables false
set_option linter.unusedSimpArgs false

def sideOf (x : Int) : Int := if 0 < x then 1 else 0

theorem side10 (x : Int) (w : World) : Calls Try.prog 10 #[.int .i64 x] w fun e w' => e = .returned (.int .i64 (sideOf x)) ∧ w = w' := by
  by_cases h : 0 < x
  · have hs : sideOf x = 1 := by unfold sideOf; rw [if_pos h]
    rw [hs]
    clear hs
    go_enter Try.func10, Try.ntmps10
    go_wp2
    go_ret
    exact ⟨rfl, rfl⟩
  · have hs : sideOf x = 0 := by unfold sideOf; rw [if_neg h]
    rw [hs]
    clear hs
    go_enter Try.func10, Try.ntmps10
    go_wp2
    go_ret
    exact ⟨rfl, rfl⟩

theorem side6 (x : Int) (w : World) : Calls Try.prog 6 #[.int .i64 x] w fun e w' => e = .returned (.int .i64 (sideOf x)) ∧ w = w' := by
  go_enter Try.func6, Try.ntmps6
  go_wp2_with fail
  refine (side10 x w).mono ?_
  rintro e w' ⟨rfl, rfl⟩
  go_wp2
  go_ret
  exact ⟨rfl, rfl⟩

theorem sideOf_pos {x : Int} (h : 0 < x) : sideOf x = 1 := by unfold sideOf; rw [if_pos h]
theorem sideOf_neg {x : Int} (h : ¬ 0 < x) : sideOf x = 0 := by unfold sideOf; rw [if_neg h]

theorem wrap_neg (x : Int) (h0 : -9223372036854775808 < x) (h1 : x ≤ 9223372036854775807) : IntKind.i64.wrap (-x) = -x := by
  simp [IntKind.wrap, IntKind.bits, IntKind.signed]
  omega
theorem wrap_min : IntKind.i64.wrap (-(-9223372036854775808)) = -9223372036854775808 := by decide

end Go.Proofs.Qxb6604677a
