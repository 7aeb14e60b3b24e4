/-
  Seat b2335a, laws A: math.Frexp (29, 41).
-/
import Derived.Test.YbulkaviiSmallF
namespace Go.Proofs.Ybulkavii.A
open Go Go.RowKit

theorem and2047 (z : Int) : ∃ e : Nat, bits .and .u64 z 2047 = (e : Int) ∧ e ≤ 2047 := by
  have h : ((BitVec.ofInt 64 z) &&& (BitVec.ofInt 64 2047)).toNat ≤ 2047 := by
    rw [BitVec.toNat_and]
    exact Nat.and_le_right
  refine ⟨((BitVec.ofInt 64 z) &&& (BitVec.ofInt 64 2047)).toNat, ?_, h⟩
  show IntKind.u64.wrap _ = _
  have : ∀ n : Nat, n ≤ 2047 → IntKind.u64.wrap (n : Int) = (n : Int) := fun n hn => by
    simp [IntKind.wrap, IntKind.bits, IntKind.signed]
    omega
  exact this _ h

/-- The biased exponent. -/
def expB (x : Nat) : Int := bits .and .u64 ((x : Int) / 4503599627370496) 2047
def frB (x : Nat) : Nat := (bits .or .u64 (bits .andNot .u64 (x : Int) 9218868437227405312) 4602678819172646912).toNat

/-- Frexp, where no invalid operation is met. -/
def frexpF (x : Nat) : Option (Nat × Int) :=
  if ord x 0 == some .eq then some (x, 0) else
  if infB x then some (x, 0) else
  if nanB x then some (x, 0) else
  if ord (absB x) 4503599627370496 == some .lt then (floatBits .mul .f64 x 4841369599423283200).bind fun r => some (frB r, -52 + (expB r - 1023 + 1))
  else some (frB x, expB x - 1023 + 1)

set_option maxRecDepth 100000 in
set_option maxHeartbeats 1000000 in
theorem frexp_any (x : Nat) (w : World) :
    Calls Yba.prog 41 #[.float .f64 x] w fun e w' => ∃ fr ex d, e = .returned (.tuple #[.float .f64 fr, .int .i64 ex]) ∧ w' = w.drewN d ∧ (-1100 ≤ ex ∧ ex ≤ 1100) ∧ ∀ v, frexpF x = some v → v = (fr, ex) := by
  have h1 := run_bits
  have h2 := run_unbits
  rcases Bool.eq_false_or_eq_true (ord x 0 == some .eq) with hz | hz
  · go_enter Yba.func41, Yba.ntmps41
    go_wp2
    go_ret2
    exact ⟨_, _, 0, rfl, rfl, by decide, fun v hv => by simpa [frexpF, *] using hv.symm⟩
  · rcases Bool.eq_false_or_eq_true (infB x) with hi | hi
    · go_enter Yba.func41, Yba.ntmps41
      go_wp2_with (go_at_call 42; refine (isInf_any _ _).mono ?_; rintro e w1 ⟨rfl, rfl⟩)
      go_ret2
      exact ⟨_, _, 0, rfl, rfl, by decide, fun v hv => by simpa [frexpF, *] using hv.symm⟩
    · rcases Bool.eq_false_or_eq_true (nanB x) with hn | hn
      · go_enter Yba.func41, Yba.ntmps41
        go_wp2_with (first
          | (go_at_call 42; refine (isInf_any _ _).mono ?_; rintro e w1 ⟨rfl, rfl⟩)
          | (go_at_call 43; refine (isNaN_any _ _).mono ?_; rintro e w1 ⟨rfl, rfl⟩))
        go_ret2
        exact ⟨_, _, 0, rfl, rfl, by decide, fun v hv => by simpa [frexpF, *] using hv.symm⟩
      · rcases Bool.eq_false_or_eq_true (ord (absB x) 4503599627370496 == some .lt) with hs | hs
        · go_enter Yba.func41, Yba.ntmps41
          go_wp2_with (first
            | (go_at_call 42; refine (isInf_any _ _).mono ?_; rintro e w1 ⟨rfl, rfl⟩)
            | (go_at_call 43; refine (isNaN_any _ _).mono ?_; rintro e w1 ⟨rfl, rfl⟩)
            | (go_at_call 44; refine (norm_small _ _ hs).mono ?_; rintro e w1 ⟨r, d, rfl, hr, rfl⟩; have HR := hidden hr; clear hr; obtain ⟨eb, heb, heb1⟩ := and2047 ((r : Int) / 4503599627370496)))
          go_ret2
          refine ⟨_, _, _, rfl, rfl, by omega, fun v hv => ?_⟩
          simp only [frexpF, hz, hi, hn, hs, if_true, if_false, Bool.false_eq_true] at hv
          obtain ⟨r', e1, e2⟩ := Option.bind_eq_some_iff.1 hv
          obtain rfl := HR.out.2 _ e1
          injection e2 with e2
          rw [← e2, expB, heb]; rfl
        · obtain ⟨eb, heb, heb1⟩ := and2047 ((x : Int) / 4503599627370496)
          go_enter Yba.func41, Yba.ntmps41
          go_wp2_with (first
            | (go_at_call 42; refine (isInf_any _ _).mono ?_; rintro e w1 ⟨rfl, rfl⟩)
            | (go_at_call 43; refine (isNaN_any _ _).mono ?_; rintro e w1 ⟨rfl, rfl⟩)
            | (go_at_call 44; refine (norm_big _ _ hs).mono ?_; rintro e w1 ⟨rfl, rfl⟩))
          go_ret2
          refine ⟨_, _, 0, rfl, rfl, by omega, fun v hv => ?_⟩
          simp only [frexpF, hz, hi, hn, hs, if_false, Bool.false_eq_true] at hv
          injection hv with e2
          rw [← e2, expB, heb]; rfl

set_option maxRecDepth 100000 in
theorem Frexp_any (x : Nat) (w : World) :
    Calls Yba.prog 29 #[.float .f64 x] w fun e w' => ∃ fr ex d, e = .returned (.tuple #[.float .f64 fr, .int .i64 ex]) ∧ w' = w.drewN d ∧ (-1100 ≤ ex ∧ ex ≤ 1100) ∧ ∀ v, frexpF x = some v → v = (fr, ex) := by
  go_enter Yba.func29, Yba.ntmps29
  go_wp2_with (go_at_call 41; refine (frexp_any _ _).mono ?_; rintro e w1 ⟨fr, ex, d, rfl, rfl, hex, hF⟩)
  go_ret2
  exact ⟨fr, ex, d, rfl, rfl, hex, hF⟩

end Go.Proofs.Ybulkavii.A
