/-
  Seat b2335a, laws A: math.Hypot (23), its assembly twin archHypot (32).
-/
import Derived.Test.YbulkaviiLdexp
namespace Go.Proofs.Ybulkavii.A
open Go Go.RowKit

def pinf : Nat := 9218868437227405312
/-- archHypot, where no invalid operation is met. -/
def hypF (p0 q0 : Nat) : Option Nat :=
  let p := p0 % 2 ^ 63
  let q := q0 % 2 ^ 63
  if p == pinf || q == pinf then some pinf else
  if p > pinf || q > pinf then some 9221120237041090561 else
  if p == 0 && q == 0 then some 0 else
  let bs := if ord p q == some .lt then (q, p) else (p, q)
  (floatBits .quo .f64 bs.2 bs.1).bind fun r => (floatBits .mul .f64 r r).bind fun r2 => (floatBits .add .f64 r2 one).bind fun r3 => (sqt r3).bind fun r4 => floatBits .mul .f64 r4 bs.1

theorem run_arith (op : BinOp) (hop : op = .add ∨ op = .sub ∨ op = .mul ∨ op = .quo) (x y : Nat) (w : World) : (Extern.MathAsm.arith op x y).run Yba.prog w = .ok (fq (floatBits op .f64 x y) w x y) (w.drewN (fd (floatBits op .f64 x y))) := by
  have h := run_fop op hop 22 x y w
  have e : binOp op 22 (.float .f64 x) (.float .f64 y) = Op.floatArith op .f64 x y := by rcases hop with rfl | rfl | rfl | rfl <;> rfl
  rw [e] at h
  unfold Extern.MathAsm.arith
  simp only [Sem.run_bind, h, Result.andThen_ok]
  rfl

theorem hyp_eq (p0 q0 : Nat) : Extern.MathHypot.archHypot #[.float .f64 p0, .float .f64 q0] = (
    if p0 % 2 ^ 63 == pinf || q0 % 2 ^ 63 == pinf then pure (.float .f64 pinf) else
    if p0 % 2 ^ 63 > pinf || q0 % 2 ^ 63 > pinf then pure (.float .f64 9221120237041090561) else
    if p0 % 2 ^ 63 == 0 && q0 % 2 ^ 63 == 0 then pure (.float .f64 0) else
    Extern.MathAsm.arith .quo (if ord (p0 % 2 ^ 63) (q0 % 2 ^ 63) == some .lt then (q0 % 2 ^ 63, p0 % 2 ^ 63) else (p0 % 2 ^ 63, q0 % 2 ^ 63)).2 (if ord (p0 % 2 ^ 63) (q0 % 2 ^ 63) == some .lt then (q0 % 2 ^ 63, p0 % 2 ^ 63) else (p0 % 2 ^ 63, q0 % 2 ^ 63)).1 >>= fun r =>
    Extern.MathAsm.arith .mul r r >>= fun r2 =>
    Extern.MathAsm.arith .add r2 one >>= fun r3 =>
    Extern.MathSqrt.sqrt #[.float .f64 r3] >>= fun v =>
    match v with
    | .float _ r4 => Extern.MathAsm.arith .mul r4 (if ord (p0 % 2 ^ 63) (q0 % 2 ^ 63) == some .lt then (q0 % 2 ^ 63, p0 % 2 ^ 63) else (p0 % 2 ^ 63, q0 % 2 ^ 63)).1 >>= fun r5 => pure (.float .f64 r5)
    | _ => stuck "sqrt: a float expected") := by
  rfl

theorem run_hypE (p0 q0 : Nat) (w : World) : ∃ r d, (Extern.MathHypot.archHypot #[.float .f64 p0, .float .f64 q0]).run Yba.prog w = .ok (.float .f64 r) (w.drewN d) ∧ Gives (hypF p0 q0) r := by
  rw [hyp_eq]
  unfold hypF
  simp only
  split
  · exact ⟨pinf, 0, rfl, by decide, fun v hv => by injection hv⟩
  · split
    · exact ⟨_, 0, rfl, by decide, fun v hv => by injection hv⟩
    · split
      · exact ⟨_, 0, rfl, by decide, fun v hv => by injection hv⟩
      · generalize (if ord (p0 % 2 ^ 63) (q0 % 2 ^ 63) == some .lt then (q0 % 2 ^ 63, p0 % 2 ^ 63) else (p0 % 2 ^ 63, q0 % 2 ^ 63)) = bs
        simp only [Sem.run_bind, run_arith .quo (.inr (.inr (.inr rfl))), run_arith .mul (.inr (.inr (.inl rfl))), run_arith .add (.inl rfl), run_sqtV, Result.andThen_ok, World.drewN_drewN]
        refine ⟨_, _, rfl, fop_lt _ _ _ _ _ _, fun v hv => ?_⟩
        obtain ⟨r, h1, hv⟩ := Option.bind_eq_some_iff.1 hv
        obtain ⟨r2, h2, hv⟩ := Option.bind_eq_some_iff.1 hv
        obtain ⟨r3, h3, hv⟩ := Option.bind_eq_some_iff.1 hv
        obtain ⟨r4, h4, hv⟩ := Option.bind_eq_some_iff.1 hv
        simp only [h1, fqs, h2, h3, h4, hv]

theorem hyp_fun : ∃ R D : Nat → Nat → World → Nat, ∀ p q w, (callFunc 32 #[.float .f64 p, .float .f64 q]).run Yba.prog w = .ok (.value (.float .f64 (R p q w))) (w.drewN (D p q w)) ∧ Gives (hypF p q) (R p q w) := by
  refine ⟨fun p q w => Classical.choose (run_hypE p q w), fun p q w => Classical.choose (Classical.choose_spec (run_hypE p q w)), fun p q w => ?_⟩
  have h := Classical.choose_spec (Classical.choose_spec (run_hypE p q w))
  rw [run_callFunc_extern (e := Extern.MathHypot.archHypot) Yba.func32 (by kernel_rfl) (by kernel_rfl) (by kernel_rfl) (by kernel_rfl), h.1]
  exact ⟨rfl, h.2⟩

set_option maxRecDepth 100000 in
theorem hypot_any (p q : Nat) (w : World) :
    Calls Yba.prog 23 #[.float .f64 p, .float .f64 q] w fun e w' => ∃ r d, e = .returned (.float .f64 r) ∧ w' = w.drewN d ∧ Gives (hypF p q) r := by
  obtain ⟨R, D, h⟩ := hyp_fun
  have h1 := fun p q w => (h p q w).1
  have H2 := hidden (h p q w).2
  clear h
  go_enter Yba.func23, Yba.ntmps23
  go_wp2
  go_ret
  exact ⟨_, _, rfl, rfl, H2.out⟩

end Go.Proofs.Ybulkavii.A
