/-
  Seat b2335a, laws A: twoCoordinates (function 17) over two points, over one, over none.
-/
import Derived.Test.YbulkaviiFl
namespace Go.Proofs.Ybulkavii.A
open Go Go.RowKit

set_option maxRecDepth 100000 in
set_option maxHeartbeats 400000 in
theorem twoC_two (V c0 c1 : Nat) (p q : Option Addr) (w : World) (h0 : w.cell? ⟨V, 0, none⟩ = some (.slice p 2 c0)) (h1 : w.cell? ⟨V, 1, none⟩ = some (.slice q 2 c1)) :
    Calls Yba.prog 17 #[.slice (some ⟨V, 0, none⟩) 2 2] w fun e w' => e = .returned (.tuple #[]) ∧ w' = w := by
  go_enter Yba.func17, Yba.ntmps17
  go_wp2
  refine wp_loop_rounds 3 ?_
  rw [rounds_succ]
  go_wp2
  rw [rounds_succ]
  go_wp2
  rw [rounds_succ]
  go_wp2
  go_end0
  exact ⟨rfl, rfl⟩

set_option maxRecDepth 100000 in
set_option maxHeartbeats 400000 in
theorem twoC_one (V c0 : Nat) (p : Option Addr) (w : World) (h0 : w.cell? ⟨V, 0, none⟩ = some (.slice p 2 c0)) :
    Calls Yba.prog 17 #[.slice (some ⟨V, 0, none⟩) 1 1] w fun e w' => e = .returned (.tuple #[]) ∧ w' = w := by
  go_enter Yba.func17, Yba.ntmps17
  go_wp2
  refine wp_loop_rounds 2 ?_
  rw [rounds_succ]
  go_wp2
  rw [rounds_succ]
  go_wp2
  go_end0
  exact ⟨rfl, rfl⟩

set_option maxRecDepth 100000 in
set_option maxHeartbeats 400000 in
theorem twoC_none (w : World) :
    Calls Yba.prog 17 #[.slice none 0 0] w fun e w' => e = .returned (.tuple #[]) ∧ w' = w := by
  go_enter Yba.func17, Yba.ntmps17
  go_wp2
  refine wp_loop_rounds 1 ?_
  rw [rounds_succ]
  go_wp2
  go_end0
  exact ⟨rfl, rfl⟩

end Go.Proofs.Ybulkavii.A
