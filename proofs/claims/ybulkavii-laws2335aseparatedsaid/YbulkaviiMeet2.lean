/-
  Seat b2335a, laws A: meet (function 25) over the two first half-spaces: it answers true.
-/
import Derived.Test.YbulkaviiMeet
namespace Go.Proofs.Ybulkavii.A
open Go Go.RowKit

abbrev mone : Nat := 13830554455654793216
theorem k_mul1 : floatBits .mul .f64 one 0 = some 0 := by decide +kernel
theorem k_mul2 : floatBits .mul .f64 mone 0 = some 9223372036854775808 := by decide +kernel
theorem k_add1 : floatBits .add .f64 0 0 = some 0 := by decide +kernel
theorem k_add2 : floatBits .add .f64 0 9223372036854775808 = some 0 := by decide +kernel

theorem k_tol1 : (ord (absB one) 4427486594234968593 == some .lt || ord (absB one) 4427486594234968593 == some .eq) = false := by decide +kernel
theorem k_tol2 : (ord (absB mone) 4427486594234968593 == some .lt || ord (absB mone) 4427486594234968593 == some .eq) = false := by decide +kernel

set_option maxRecDepth 100000 in
set_option maxHeartbeats 2000000 in
theorem meet_two (S A1 A2 Y b : Nat) (w : World)
    (s0 : w.cell? ⟨S, 0, none⟩ = some (.slice (some ⟨A1, 0, none⟩) 1 1)) (s1 : w.cell? ⟨S, 1, none⟩ = some (.float .f64 b)) (s2 : w.cell? ⟨S, 2, none⟩ = some (.float .f64 b))
    (s3 : w.cell? ⟨S, 3, none⟩ = some (.slice (some ⟨A2, 0, none⟩) 1 1)) (s4 : w.cell? ⟨S, 4, none⟩ = some (.float .f64 b)) (s5 : w.cell? ⟨S, 5, none⟩ = some (.float .f64 b))
    (a1 : w.cell? ⟨A1, 0, none⟩ = some (.float .f64 one)) (a2 : w.cell? ⟨A2, 0, none⟩ = some (.float .f64 mone)) (y0 : w.cell? ⟨Y, 0, none⟩ = some (.float .f64 0))
    (hb : (ord 0 b == some .lt || ord 0 b == some .eq) = true) :
    Calls Yba.prog 25 #[.slice (some ⟨S, 0, none⟩) 2 2, .slice (some ⟨Y, 0, none⟩) 1 1] w fun e w' => e = .returned (.bool true) ∧ Below w.heap.size w w' := by
  have had := alloc_drewN
  have hsd := setCell_drewN
  have lS := World.block_lt_of_cell? w _ s0
  have lA1 := World.block_lt_of_cell? w _ a1
  have lA2 := World.block_lt_of_cell? w _ a2
  have lY := World.block_lt_of_cell? w _ y0
  have hm1 : ∀ w : World, (binOp .mul 22 (.float .f64 one) (.float .f64 0)).run Yba.prog w = .ok (.float .f64 0) w := fun w => run_float_arith w .mul 22 .f64 _ _ _ k_mul1
  have hm2 : ∀ w : World, (binOp .mul 22 (.float .f64 mone) (.float .f64 0)).run Yba.prog w = .ok (.float .f64 9223372036854775808) w := fun w => run_float_arith w .mul 22 .f64 _ _ _ k_mul2
  have hp1 : ∀ w : World, (binOp .add 22 (.float .f64 0) (.float .f64 0)).run Yba.prog w = .ok (.float .f64 0) w := fun w => run_float_arith w .add 22 .f64 _ _ _ k_add1
  have hp2 : ∀ w : World, (binOp .add 22 (.float .f64 0) (.float .f64 9223372036854775808)).run Yba.prog w = .ok (.float .f64 0) w := fun w => run_float_arith w .add 22 .f64 _ _ _ k_add2
  have ht1 := k_tol1
  have ht2 := k_tol2
  go_enter Yba.func25, Yba.ntmps25
  go_wp2
  refine wp_loop_rounds 3 ?_
  rw [rounds_succ]
  go_wp2_with (first
    | (go_at_call 35; refine (steep_one _ _ _).mono ?_; rintro e w1 ⟨rfl, d, rfl⟩)
    | (go_at_call 28; refine (abs_any _ _).mono ?_; rintro e w1 ⟨rfl, rfl⟩))
  refine wp_loop_rounds 2 ?_
  rw [rounds_succ]
  go_wp2
  go_quiet (fail)
  go_wp2
  rw [rounds_succ]
  go_wp2
  rw [rounds_succ]
  go_wp2_with (first
    | (go_at_call 35; refine (steep_one _ _ _).mono ?_; rintro e w1 ⟨rfl, d, rfl⟩)
    | (go_at_call 28; refine (abs_any _ _).mono ?_; rintro e w1 ⟨rfl, rfl⟩))
  refine wp_loop_rounds 2 ?_
  rw [rounds_succ]
  go_wp2
  go_quiet (fail)
  go_wp2
  rw [rounds_succ]
  go_wp2
  rw [rounds_succ]
  go_wp2
  go_ret
  exact ⟨rfl, below_drewN (((Below.refl _ _).alloc (Nat.le_refl _) _).alloc (by simp) _) _⟩

end Go.Proofs.Ybulkavii.A
