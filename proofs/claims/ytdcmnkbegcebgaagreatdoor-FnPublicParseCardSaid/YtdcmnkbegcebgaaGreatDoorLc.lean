/- FnPrivateBack: seeds of other lengths. -/
import Derived.Test.YtdcmnkbegcebgaaGreatDoorDa
import Derived.Test.YtdcmnkbegcebgaaGreatDoorLa
import Derived.WalkKit
namespace Go.Proofs.YtdcmnkbegcebgaaGreatDoor
open Go Go.RowKit

theorem back_nil (w : World) : Calls Tryz.prog 4 #[.slice none 0 0] w fun e w' => e = .returned (.bool true) ∧ Below w.heap.size w w' := by
  go_enter Tryz.func4, Tryz.ntmps4
  go_wp2
  all_goals go_ret
  all_goals exact ⟨rfl, Below.refl _ _⟩
theorem back_len (a : Addr) (n c : Nat) (w : World) (_hn : (n == 32) = false) (h32 : ((n : Int) == 32) = false) : Calls Tryz.prog 4 #[.slice (some a) n c] w fun e w' => e = .returned (.bool true) ∧ Below w.heap.size w w' := by
  go_enter Tryz.func4, Tryz.ntmps4
  go_wp2
  all_goals go_ret
  all_goals exact ⟨rfl, Below.refl _ _⟩
end Go.Proofs.YtdcmnkbegcebgaaGreatDoor
