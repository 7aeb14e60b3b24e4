/-
  Seat b2335a, laws A: toOneScale (function 21).
-/
import Derived.Test.YbulkaviiHyp
namespace Go.Proofs.Ybulkavii.A
open Go Go.RowKit

/-- The builtin max on two floats, where neither is a NaN. -/
def mxF (x y : Nat) : Option Nat :=
  match ord x y with
  | none => none
  | some .lt => some y
  | some .gt => some x
  | some .eq => some (if (FloatKind.f64.decode x).neg then y else x)

theorem max_fun : ∃ R D : Nat → Nat → World → Nat, ∀ x y w, (Builtin.max_ #[22, 22] 22 #[.float .f64 x, .float .f64 y]).run Yba.prog w = .ok (.float .f64 (R x y w)) (w.drewN (D x y w)) ∧ (x < 2 ^ 64 → y < 2 ^ 64 → Gives (mxF x y) (R x y w)) := by
  have key : ∀ x y w, ∃ r d, (Builtin.max2 (.float .f64 x) (.float .f64 y)).run Yba.prog w = .ok (.float .f64 r) (w.drewN d) ∧ (x < 2 ^ 64 → y < 2 ^ 64 → Gives (mxF x y) r) := fun x y w => by
    have e : Builtin.max2 (.float .f64 x) (.float .f64 y) = (match ord x y with
      | none => choose (.nanMinMax .f64 true x y) >>= fun b => pure (.float .f64 b)
      | some .lt => pure (.float .f64 y)
      | some .gt => pure (.float .f64 x)
      | some .eq => pure (.float .f64 (if (FloatKind.f64.decode x).neg then y else x))) := rfl
    rw [e]
    cases h : ord x y with
    | none =>
      refine ⟨(Question.nanMinMax .f64 true x y).cut (w.tape w.drawn (.nanMinMax .f64 true x y)), 1, ?_, fun _ _ => ⟨?_, fun v hv => ?_⟩⟩
      · simp only [Sem.run_bind, run_choose_drew]; rfl
      · unfold Question.cut; simp only; omega
      · simp [mxF, h] at hv
    | some o =>
      cases o with
      | lt => exact ⟨y, 0, rfl, fun _ hy => ⟨hy, fun v hv => by simpa [mxF, h] using hv⟩⟩
      | gt => exact ⟨x, 0, rfl, fun hx _ => ⟨hx, fun v hv => by simpa [mxF, h] using hv⟩⟩
      | eq => exact ⟨_, 0, rfl, fun hx hy => ⟨by split <;> assumption, fun v hv => by simpa [mxF, h] using hv⟩⟩
  refine ⟨fun x y w => Classical.choose (key x y w), fun x y w => Classical.choose (Classical.choose_spec (key x y w)), fun x y w => ?_⟩
  have h := Classical.choose_spec (Classical.choose_spec (key x y w))
  refine ⟨?_, h.2⟩
  show (Builtin.max2 (.float .f64 x) (.float .f64 y) >>= fun v => pure v).run Yba.prog w = _
  rw [Sem.run_bind, h.1]
  rfl

theorem absB_lt (x : Nat) : absB x < 2 ^ 64 := bits_u64_lt _ _ _

/-- The greatest of the two sizes. -/
def topF (c0 c1 : Nat) : Option Nat := (mxF 0 (absB c0)).bind fun t => mxF t (absB c1)

set_option maxRecDepth 100000 in
set_option maxHeartbeats 2000000 in
theorem scale_one (V B c0 c1 : Nat) (w : World) (h0 : c0 < 2 ^ 64) (h1 : c1 < 2 ^ 64) (hV : w.cell? ⟨V, 0, none⟩ = some (.slice (some ⟨B, 0, none⟩) 2 2)) (hc0 : w.cell? ⟨B, 0, none⟩ = some (.float .f64 c0)) (hc1 : w.cell? ⟨B, 1, none⟩ = some (.float .f64 c1)) (f0 : w.frozen? ⟨B, 0, none⟩ = false) (f1 : w.frozen? ⟨B, 1, none⟩ = false) :
    Calls Yba.prog 21 #[.slice (some ⟨V, 0, none⟩) 1 1] w fun e w' => ∃ ex r0 r1 d, e = .returned (.int .i64 ex) ∧ w' = ((w.setCell ⟨B, 0, none⟩ (.float .f64 r0)).setCell ⟨B, 1, none⟩ (.float .f64 r1)).drewN d ∧ (-1100 ≤ ex ∧ ex ≤ 1100) ∧ r0 < 2 ^ 64 ∧ r1 < 2 ^ 64 := by
  obtain ⟨MX, MD, hM⟩ := max_fun
  have hmax := fun x y w => (hM x y w).1
  have had := alloc_drewN
  have hsd := setCell_drewN
  have H0 := hidden h0
  have H1 := hidden h1
  clear h0 h1
  go_enter Yba.func21, Yba.ntmps21
  go_wp2
  refine wp_loop_rounds 2 ?_
  rw [rounds_succ]
  go_wp2
  refine wp_loop_rounds 3 ?_
  rw [rounds_succ]
  go_wp2_with (go_at_call 28; refine (abs_any _ _).mono ?_; rintro e w1 ⟨rfl, rfl⟩)
  rw [rounds_succ]
  go_wp2_with (go_at_call 28; refine (abs_any _ _).mono ?_; rintro e w1 ⟨rfl, rfl⟩)
  rw [rounds_succ]
  go_wp2
  rw [rounds_succ]
  go_wp2_with (go_at_call 29; refine (Frexp_any _ _).mono ?_; rintro e w1 ⟨fr, ex, d, rfl, rfl, hex, hF⟩; have HF := hidden hF; clear hF; obtain ⟨hex0, hex1⟩ := hex)
  refine wp_loop_rounds 2 ?_
  rw [rounds_succ]
  go_wp2
  refine wp_loop_rounds 3 ?_
  rw [rounds_succ]
  go_wp2_with (go_at_call 22; refine (Ldexp_any _ _ _ H0.out (by omega)).mono ?_; rintro e w2 ⟨r0, d0, rfl, rfl, hr0⟩; have HR0 := hidden hr0; clear hr0)
  rw [rounds_succ]
  go_wp2_with (go_at_call 22; refine (Ldexp_any _ _ _ H1.out (by omega)).mono ?_; rintro e w2 ⟨r1, d1, rfl, rfl, hr1⟩; have HR1 := hidden hr1; clear hr1)
  rw [rounds_succ]
  go_wp2
  rw [rounds_succ]
  go_wp2
  go_ret
  exact ⟨ex, r0, r1, _, rfl, rfl, ⟨hex0, hex1⟩, HR0.out.1, HR1.out.1⟩

end Go.Proofs.Ybulkavii.A
