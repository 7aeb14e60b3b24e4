/-
  Seat b2335a, laws A: math.Abs (28), IsNaN (43), IsInf (42), normalize (44), Copysign (45), Inf (46), Sqrt (24).
-/
import Derived.Test.YbulkaviiQuo
namespace Go.Proofs.Ybulkavii.A
open Go Go.RowKit

abbrev ord (x y : Nat) : Option Ordering := FloatKind.f64.format.order x y
def absB (x : Nat) : Nat := (bits .andNot .u64 (x : Int) 9223372036854775808).toNat
def infB (x : Nat) : Bool := ord (absB x) 9218868437227405311 == some .gt
def cpsB (x y : Nat) : Nat := (bits .or .u64 (bits .andNot .u64 (x : Int) 9223372036854775808) (bits .and .u64 (y : Int) 9223372036854775808)).toNat
def nanB (x : Nat) : Bool := ord x x != some .eq

set_option maxRecDepth 100000 in
theorem abs_any (x : Nat) (w : World) :
    Calls Yba.prog 28 #[.float .f64 x] w fun e w' => e = .returned (.float .f64 (absB x)) ∧ w' = w := by
  have h1 := run_bits
  have h2 := run_unbits
  go_enter Yba.func28, Yba.ntmps28
  go_wp2
  go_ret
  exact ⟨rfl, rfl⟩

set_option maxRecDepth 100000 in
theorem isNaN_any (x : Nat) (w : World) :
    Calls Yba.prog 43 #[.float .f64 x] w fun e w' => e = .returned (.bool (nanB x)) ∧ w' = w := by
  go_enter Yba.func43, Yba.ntmps43
  go_wp2
  go_ret
  exact ⟨rfl, rfl⟩

set_option maxRecDepth 100000 in
theorem sqrt_any (x : Nat) (w : World) :
    Calls Yba.prog 24 #[.float .f64 x] w fun e w' => ∃ r d, e = .returned (.float .f64 r) ∧ Gives (sqt x) r ∧ w' = w.drewN d := by
  have h1 := run_sqt
  go_enter Yba.func24, Yba.ntmps24
  go_wp2
  go_ret
  exact ⟨_, _, rfl, ⟨fq_lt (fun v hv => FloatKind.f64.format.sqrt_lt hv) _ _ _, fun v hv => fq_some hv _ _ _⟩, rfl⟩

set_option maxRecDepth 100000 in
theorem isInf_any (x : Nat) (w : World) :
    Calls Yba.prog 42 #[.float .f64 x, .int .i64 0] w fun e w' => e = .returned (.bool (infB x)) ∧ w' = w := by
  go_enter Yba.func42, Yba.ntmps42
  go_wp2_with (go_at_call 28; refine (abs_any _ _).mono ?_; rintro e w1 ⟨rfl, rfl⟩)
  go_ret
  exact ⟨rfl, rfl⟩

set_option maxRecDepth 100000 in
theorem inf_any (w : World) :
    Calls Yba.prog 46 #[.int .i64 1] w fun e w' => e = .returned (.float .f64 9218868437227405312) ∧ w' = w := by
  have h2 := run_unbits
  go_enter Yba.func46, Yba.ntmps46
  go_wp2
  go_ret
  exact ⟨rfl, rfl⟩
set_option maxRecDepth 100000 in
theorem inf_neg (w : World) :
    Calls Yba.prog 46 #[.int .i64 (-1)] w fun e w' => e = .returned (.float .f64 18442240474082181120) ∧ w' = w := by
  have h2 := run_unbits
  go_enter Yba.func46, Yba.ntmps46
  go_wp2
  go_ret
  exact ⟨rfl, rfl⟩

set_option maxRecDepth 100000 in
theorem copysign_any (x y : Nat) (w : World) :
    Calls Yba.prog 45 #[.float .f64 x, .float .f64 y] w fun e w' => e = .returned (.float .f64 (cpsB x y)) ∧ w' = w := by
  have h1 := run_bits
  have h2 := run_unbits
  go_enter Yba.func45, Yba.ntmps45
  go_wp2
  go_ret
  exact ⟨rfl, rfl⟩

set_option maxRecDepth 100000 in
theorem norm_small (x : Nat) (w : World) (h : (ord (absB x) 4503599627370496 == some .lt) = true) :
    Calls Yba.prog 44 #[.float .f64 x] w fun e w' => ∃ r d, e = .returned (.tuple #[.float .f64 r, .int .i64 (-52)]) ∧ Gives (floatBits .mul .f64 x 4841369599423283200) r ∧ w' = w.drewN d := by
  go_enter Yba.func44, Yba.ntmps44
  go_wp2_with (first
    | (go_at_call 28; refine (abs_any _ _).mono ?_; rintro e w1 ⟨rfl, rfl⟩)
    | (refine wpList_float _ rfl .mul _ _ _ _ rfl (.inr (.inr (.inl rfl))) _ _ rfl rfl ?_; intro r d hr))
  go_ret2
  exact ⟨_, _, rfl, hr.out, rfl⟩
set_option maxRecDepth 100000 in
theorem norm_big (x : Nat) (w : World) (h : (ord (absB x) 4503599627370496 == some .lt) = false) :
    Calls Yba.prog 44 #[.float .f64 x] w fun e w' => e = .returned (.tuple #[.float .f64 x, .int .i64 0]) ∧ w' = w := by
  go_enter Yba.func44, Yba.ntmps44
  go_wp2_with (go_at_call 28; refine (abs_any _ _).mono ?_; rintro e w1 ⟨rfl, rfl⟩)
  go_ret2
  exact ⟨rfl, rfl⟩

end Go.Proofs.Ybulkavii.A
