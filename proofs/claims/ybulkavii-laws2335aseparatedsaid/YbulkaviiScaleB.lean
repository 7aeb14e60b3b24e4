/-
  Seat b2335a, laws A: toOneScale (function 21) over two vectors.
-/
import Derived.Test.YbulkaviiScale
namespace Go.Proofs.Ybulkavii.A
open Go Go.RowKit

def topF4 (c0 c1 d0 d1 : Nat) : Option Nat := (mxF 0 (absB c0)).bind fun t => (mxF t (absB c1)).bind fun t => (mxF t (absB d0)).bind fun t => mxF t (absB d1)

def scaleF (c0 c1 d0 d1 : Nat) : Option (Int × Nat × Nat × Nat × Nat) :=
  (topF4 c0 c1 d0 d1).bind fun t =>
  (frexpF t).bind fun p =>
  (ldexpF c0 (-p.2)).bind fun r0 =>
  (ldexpF c1 (-p.2)).bind fun r1 =>
  (ldexpF d0 (-p.2)).bind fun r2 =>
  (ldexpF d1 (-p.2)).bind fun r3 => some (p.2, r0, r1, r2, r3)

theorem top_eq {MX : Nat → Nat → World → Nat} (hM : ∀ x y w, x < 2 ^ 64 → y < 2 ^ 64 → Gives (mxF x y) (MX x y w)) {c0 c1 d0 d1 t : Nat} (ht : topF4 c0 c1 d0 d1 = some t) (w1 w2 w3 w4 : World) :
    MX (MX (MX (MX 0 (absB c0) w1) (absB c1) w2) (absB d0) w3) (absB d1) w4 = t := by
  obtain ⟨t1, e1, ht⟩ := Option.bind_eq_some_iff.1 ht
  obtain ⟨t2, e2, ht⟩ := Option.bind_eq_some_iff.1 ht
  obtain ⟨t3, e3, e4⟩ := Option.bind_eq_some_iff.1 ht
  have g1 := hM 0 (absB c0) w1 (by decide) (absB_lt _)
  rw [g1.2 _ e1]
  have l1 := g1.1
  rw [g1.2 _ e1] at l1
  have g2 := hM t1 (absB c1) w2 l1 (absB_lt _)
  rw [g2.2 _ e2]
  have l2 := g2.1
  rw [g2.2 _ e2] at l2
  have g3 := hM t2 (absB d0) w3 l2 (absB_lt _)
  rw [g3.2 _ e3]
  have l3 := g3.1
  rw [g3.2 _ e3] at l3
  exact (hM t3 (absB d1) w4 l3 (absB_lt _)).2 _ e4

set_option maxRecDepth 100000 in
set_option maxHeartbeats 4000000 in
theorem scale_two (V B D c0 c1 d0 d1 cap : Nat) (w : World) (h0 : c0 < 2 ^ 64) (h1 : c1 < 2 ^ 64) (h2 : d0 < 2 ^ 64) (h3 : d1 < 2 ^ 64) (hV : w.cell? ⟨V, 0, none⟩ = some (.slice (some ⟨B, 0, none⟩) 2 2)) (hV1 : w.cell? ⟨V, 1, none⟩ = some (.slice (some ⟨D, 0, none⟩) 2 2))
    (hc0 : w.cell? ⟨B, 0, none⟩ = some (.float .f64 c0)) (hc1 : w.cell? ⟨B, 1, none⟩ = some (.float .f64 c1)) (f0 : w.frozen? ⟨B, 0, none⟩ = false) (f1 : w.frozen? ⟨B, 1, none⟩ = false)
    (hd0 : w.cell? ⟨D, 0, none⟩ = some (.float .f64 d0)) (hd1 : w.cell? ⟨D, 1, none⟩ = some (.float .f64 d1)) (g0 : w.frozen? ⟨D, 0, none⟩ = false) (g1 : w.frozen? ⟨D, 1, none⟩ = false) (nVB : V ≠ B) (nVD : V ≠ D) (nBD : B ≠ D) :
    Calls Yba.prog 21 #[.slice (some ⟨V, 0, none⟩) 2 cap] w fun e w' => ∃ ex r0 r1 r2 r3 d, e = .returned (.int .i64 ex) ∧ w' = ((((w.setCell ⟨B, 0, none⟩ (.float .f64 r0)).setCell ⟨B, 1, none⟩ (.float .f64 r1)).setCell ⟨D, 0, none⟩ (.float .f64 r2)).setCell ⟨D, 1, none⟩ (.float .f64 r3)).drewN d ∧ (-1100 ≤ ex ∧ ex ≤ 1100) ∧ ∀ v, scaleF c0 c1 d0 d1 = some v → v = (ex, r0, r1, r2, r3) := by
  obtain ⟨MX, MD, hM⟩ := max_fun
  have hmax := fun x y w => (hM x y w).1
  have had := alloc_drewN
  have hsd := setCell_drewN
  have H0 := hidden h0
  have H1 := hidden h1
  have H2 := hidden h2
  have H3 := hidden h3
  have HM := hidden hM
  have nBV := Ne.symm nVB
  have nDV := Ne.symm nVD
  have nDB := Ne.symm nBD
  clear h0 h1 h2 h3 hM
  go_enter Yba.func21, Yba.ntmps21
  go_wp2
  refine wp_loop_rounds 3 ?_
  rw [rounds_succ]
  go_wp2
  refine wp_loop_rounds 3 ?_
  rw [rounds_succ]
  go_wp2_with (go_at_call 28; refine (abs_any _ _).mono ?_; rintro e w1 ⟨rfl, rfl⟩)
  rw [rounds_succ]
  go_wp2_with (go_at_call 28; refine (abs_any _ _).mono ?_; rintro e w1 ⟨rfl, rfl⟩)
  rw [rounds_succ]
  go_wp2
  rw [rounds_succ]
  go_wp2
  refine wp_loop_rounds 3 ?_
  rw [rounds_succ]
  go_wp2_with (go_at_call 28; refine (abs_any _ _).mono ?_; rintro e w1 ⟨rfl, rfl⟩)
  rw [rounds_succ]
  go_wp2_with (go_at_call 28; refine (abs_any _ _).mono ?_; rintro e w1 ⟨rfl, rfl⟩)
  rw [rounds_succ]
  go_wp2
  rw [rounds_succ]
  go_wp2_with (go_at_call 29; refine (Frexp_any _ _).mono ?_; rintro e w1 ⟨fr, ex, d, rfl, rfl, hex, hF⟩; have HF := hidden hF; clear hF; obtain ⟨hex0, hex1⟩ := hex)
  refine wp_loop_rounds 3 ?_
  rw [rounds_succ]
  go_wp2
  refine wp_loop_rounds 3 ?_
  rw [rounds_succ]
  go_wp2_with (go_at_call 22; refine (Ldexp_any _ _ _ H0.out (by omega)).mono ?_; rintro e w2 ⟨r0, y0, rfl, rfl, hr0⟩; have HR0 := hidden hr0; clear hr0)
  rw [rounds_succ]
  go_wp2_with (go_at_call 22; refine (Ldexp_any _ _ _ H1.out (by omega)).mono ?_; rintro e w2 ⟨r1, y1, rfl, rfl, hr1⟩; have HR1 := hidden hr1; clear hr1)
  rw [rounds_succ]
  go_wp2
  rw [rounds_succ]
  go_wp2
  refine wp_loop_rounds 3 ?_
  rw [rounds_succ]
  go_wp2_with (go_at_call 22; refine (Ldexp_any _ _ _ H2.out (by omega)).mono ?_; rintro e w2 ⟨r2, y2, rfl, rfl, hr2⟩; have HR2 := hidden hr2; clear hr2)
  rw [rounds_succ]
  go_wp2_with (go_at_call 22; refine (Ldexp_any _ _ _ H3.out (by omega)).mono ?_; rintro e w2 ⟨r3, y3, rfl, rfl, hr3⟩; have HR3 := hidden hr3; clear hr3)
  rw [rounds_succ]
  go_wp2
  rw [rounds_succ]
  go_wp2
  go_ret
  refine ⟨ex, r0, r1, r2, r3, _, rfl, rfl, ⟨hex0, hex1⟩, fun v hv => ?_⟩
  obtain ⟨t, ht, hv⟩ := Option.bind_eq_some_iff.1 hv
  obtain ⟨p, hp, hv⟩ := Option.bind_eq_some_iff.1 hv
  obtain ⟨q0, k0, hv⟩ := Option.bind_eq_some_iff.1 hv
  obtain ⟨q1, k1, hv⟩ := Option.bind_eq_some_iff.1 hv
  obtain ⟨q2, k2, hv⟩ := Option.bind_eq_some_iff.1 hv
  obtain ⟨q3, k3, hv⟩ := Option.bind_eq_some_iff.1 hv
  have hf := HF.out
  rw [top_eq (fun x y w h h' => (HM.out x y w).2 h h') ht] at hf
  obtain rfl := hf _ hp
  simp only at k0 k1 k2 k3 hv
  obtain rfl := HR0.out.2 _ k0
  obtain rfl := HR1.out.2 _ k1
  obtain rfl := HR2.out.2 _ k2
  obtain rfl := HR3.out.2 _ k3
  injection hv with hv
  exact hv.symm

end Go.Proofs.Ybulkavii.A
