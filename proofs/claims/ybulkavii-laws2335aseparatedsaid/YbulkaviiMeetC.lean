/-
  Seat b2335a, laws A: meet (function 25) over three half-spaces, the third without a coefficient.
-/
import Derived.Test.YbulkaviiMeet2
namespace Go.Proofs.Ybulkavii.A
open Go Go.RowKit

set_option maxRecDepth 100000 in
set_option maxHeartbeats 4000000 in
theorem meet_three (S A1 A2 A3 Y b cf c sz ml cap : Nat) (T : Bool) (w : World)
    (s0 : w.cell? ⟨S, 0, none⟩ = some (.slice (some ⟨A1, 0, none⟩) 1 1)) (s1 : w.cell? ⟨S, 1, none⟩ = some (.float .f64 b)) (s2 : w.cell? ⟨S, 2, none⟩ = some (.float .f64 b))
    (s3 : w.cell? ⟨S, 3, none⟩ = some (.slice (some ⟨A2, 0, none⟩) 1 1)) (s4 : w.cell? ⟨S, 4, none⟩ = some (.float .f64 b)) (s5 : w.cell? ⟨S, 5, none⟩ = some (.float .f64 b))
    (s6 : w.cell? ⟨S, 6, none⟩ = some (.slice (some ⟨A3, 0, none⟩) 1 1)) (s7 : w.cell? ⟨S, 7, none⟩ = some (.float .f64 c)) (s8 : w.cell? ⟨S, 8, none⟩ = some (.float .f64 sz))
    (a1 : w.cell? ⟨A1, 0, none⟩ = some (.float .f64 one)) (a2 : w.cell? ⟨A2, 0, none⟩ = some (.float .f64 mone)) (a3 : w.cell? ⟨A3, 0, none⟩ = some (.float .f64 cf)) (y0 : w.cell? ⟨Y, 0, none⟩ = some (.float .f64 0))
    (hb : (ord 0 b == some .lt || ord 0 b == some .eq) = true) (hcf : (ord (absB cf) 4427486594234968593 == some .lt || ord (absB cf) 4427486594234968593 == some .eq) = true)
    (hml : floatBits .mul .f64 13650858631089744401 sz = some ml) (hT : (ord c ml == some .lt) = T) :
    Calls Yba.prog 25 #[.slice (some ⟨S, 0, none⟩) 3 cap, .slice (some ⟨Y, 0, none⟩) 1 1] w fun e w' => e = .returned (.bool (!T)) ∧ Below w.heap.size w w' := by
  have had := alloc_drewN
  have hsd := setCell_drewN
  have lS := World.block_lt_of_cell? w _ s0
  have lA1 := World.block_lt_of_cell? w _ a1
  have lA2 := World.block_lt_of_cell? w _ a2
  have k3 : ∀ o1 o2 o3 : Obj, (((w.alloc o1).alloc o2).alloc o3).cell? ⟨A3, 0, none⟩ = some (.float .f64 cf) := fun o1 o2 o3 => (Below.cell (p := ⟨A3, 0, none⟩) ((((Below.refl w.heap.size w).alloc (Nat.le_refl _) o1).alloc (by simp) o2).alloc (by simp; omega) o3) (World.block_lt_of_cell? w _ a3)).trans a3
  have lY := World.block_lt_of_cell? w _ y0
  have hm1 : ∀ w : World, (binOp .mul 22 (.float .f64 one) (.float .f64 0)).run Yba.prog w = .ok (.float .f64 0) w := fun w => run_float_arith w .mul 22 .f64 _ _ _ k_mul1
  have hm2 : ∀ w : World, (binOp .mul 22 (.float .f64 mone) (.float .f64 0)).run Yba.prog w = .ok (.float .f64 9223372036854775808) w := fun w => run_float_arith w .mul 22 .f64 _ _ _ k_mul2
  have hp1 : ∀ w : World, (binOp .add 22 (.float .f64 0) (.float .f64 0)).run Yba.prog w = .ok (.float .f64 0) w := fun w => run_float_arith w .add 22 .f64 _ _ _ k_add1
  have hp2 : ∀ w : World, (binOp .add 22 (.float .f64 0) (.float .f64 9223372036854775808)).run Yba.prog w = .ok (.float .f64 0) w := fun w => run_float_arith w .add 22 .f64 _ _ _ k_add2
  have ht1 := k_tol1
  have ht2 := k_tol2
  have hm3 : ∀ w : World, (binOp .mul 22 (.float .f64 13650858631089744401) (.float .f64 sz)).run Yba.prog w = .ok (.float .f64 ml) w := fun w => run_float_arith w .mul 22 .f64 _ _ _ hml
  clear hml
  go_enter Yba.func25, Yba.ntmps25
  go_wp2
  refine wp_loop_rounds 4 ?_
  rw [rounds_succ]
  go_wp2_with (first
    | (go_at_call 35; refine (steep_one _ _ _).mono ?_; rintro e w1 ⟨rfl, d, rfl⟩)
    | (go_at_call 28; refine (abs_any _ _).mono ?_; rintro e w1 ⟨rfl, rfl⟩))
  refine wp_loop_rounds 2 ?_
  rw [rounds_succ]
  go_wp2
  go_quiet (fail)
  go_wp2
  rw [rounds_succ]
  go_wp2
  rw [rounds_succ]
  go_wp2_with (first
    | (go_at_call 35; refine (steep_one _ _ _).mono ?_; rintro e w1 ⟨rfl, d, rfl⟩)
    | (go_at_call 28; refine (abs_any _ _).mono ?_; rintro e w1 ⟨rfl, rfl⟩))
  refine wp_loop_rounds 2 ?_
  rw [rounds_succ]
  go_wp2
  go_quiet (fail)
  go_wp2
  rw [rounds_succ]
  go_wp2
  rw [rounds_succ]
  cases T
  · go_wp2_with (first
      | (go_at_call 35; refine (steep_one _ _ _).mono ?_; rintro e w1 ⟨rfl, d, rfl⟩)
      | (go_at_call 28; refine (abs_any _ _).mono ?_; rintro e w1 ⟨rfl, rfl⟩))
    rw [rounds_succ]
    go_wp2
    go_ret
    exact ⟨rfl, below_drewN ((((Below.refl _ _).alloc (Nat.le_refl _) _).alloc (by simp) _).alloc (by simp; omega) _) _⟩
  · go_wp2_with (first
      | (go_at_call 35; refine (steep_one _ _ _).mono ?_; rintro e w1 ⟨rfl, d, rfl⟩)
      | (go_at_call 28; refine (abs_any _ _).mono ?_; rintro e w1 ⟨rfl, rfl⟩))
    go_ret
    exact ⟨rfl, below_drewN ((((Below.refl _ _).alloc (Nat.le_refl _) _).alloc (by simp) _).alloc (by simp; omega) _) _⟩

end Go.Proofs.Ybulkavii.A
