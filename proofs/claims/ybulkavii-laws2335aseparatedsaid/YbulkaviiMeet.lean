/-
  Seat b2335a, laws A: steepest (function 35) over one number; meet (function 25) over the two first half-spaces.
-/
import Derived.Test.YbulkaviiScale
namespace Go.Proofs.Ybulkavii.A
open Go Go.RowKit

theorem bound_all : ∀ k : Fin 2201, (match ldexpF one (1100 - (k.val : Int)) with | some b => ord 0 b == some .lt || ord 0 b == some .eq | none => false) = true := by decide +kernel

set_option maxRecDepth 100000 in
set_option maxHeartbeats 1000000 in
theorem steep_one (A cap : Nat) (w : World) :
    Calls Yba.prog 35 #[.slice (some ⟨A, 0, none⟩) 1 cap] w fun e w' => e = .returned (.int .i64 0) ∧ ∃ d, w' = w.drewN d := by
  go_enter Yba.func35, Yba.ntmps35
  go_wp2
  refine wp_loop_rounds 2 ?_
  rw [rounds_succ]
  go_wp2
  go_quiet (fail)
  go_wp2
  rw [rounds_succ]
  go_wp2
  go_ret
  exact ⟨rfl, _, rfl⟩

end Go.Proofs.Ybulkavii.A
