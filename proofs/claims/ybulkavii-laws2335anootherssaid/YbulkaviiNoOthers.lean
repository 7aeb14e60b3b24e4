/-
  Seat b2335a, laws A: the walk of LawS2335ANoOthers (function 4).
-/
import Derived.Test.YbulkaviiBord
namespace Go.Proofs.Ybulkavii.A
open Go Go.RowKit

set_option maxRecDepth 100000 in
set_option maxHeartbeats 1000000 in
theorem noOthers_walk (a0 a1 p0 p1 : Nat) (w : World) :
    Calls Yba.prog 4 #[.float .f64 a0, .float .f64 a1, .float .f64 p0, .float .f64 p1] w fun e w' => e = .returned (.bool true) ∧ Below w.heap.size w w' := by
  go_enter Yba.func4, Yba.ntmps4
  go_wp2_with (go_at_call 9; refine (borders_none (w.heap.size + 1) w.heap.size a0 a1 p0 p1 _ (by go_simp; done) (by go_simp; done) (by go_simp; done) (by go_simp; done)).mono ?_; rintro e w1 ⟨rfl, hb⟩)
  go_ret
  have h2 := below2 w (.cells #[.float .f64 a0, .float .f64 a1] 22) (.cells #[.float .f64 p0, .float .f64 p1] 22)
  exact ⟨rfl, h2.trans (hb.mono h2.size)⟩

end Go.Proofs.Ybulkavii.A
