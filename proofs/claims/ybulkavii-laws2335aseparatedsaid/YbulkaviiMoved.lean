/-
  Seat b2335a, laws A: the closure 'moved' of Borders (function 19).
-/
import Derived.Test.YbulkaviiQuo
import Derived.Test.YbulkaviiRel3
import Derived.Deep.DeepCutAuto
namespace Go.Proofs.Ybulkavii.A
open Go Go.RowKit
set_option linter.unusedSimpArgs false

/-- Two floats lie in a block, and may be written. -/
def Pair (w : World) (B x y : Nat) : Prop := w.cell? ⟨B, 0, none⟩ = some (.float .f64 x) ∧ w.cell? ⟨B, 1, none⟩ = some (.float .f64 y) ∧ w.frozen? ⟨B, 0, none⟩ = false ∧ w.frozen? ⟨B, 1, none⟩ = false

theorem Pair.drewN {w : World} {B x y : Nat} (h : Pair w B x y) (d : Nat) : Pair (w.drewN d) B x y := h
theorem Pair.alloc {w : World} {B x y : Nat} (h : Pair w B x y) (o : Obj) : Pair (w.alloc o) B x y := by
  have hb : B < w.heap.size := World.block_lt_of_cell? w _ h.1
  refine ⟨?_, ?_, ?_, ?_⟩
  · rw [World.cell?_alloc_past _ _ _ hb]; exact h.1
  · rw [World.cell?_alloc_past _ _ _ hb]; exact h.2.1
  · rw [Below.frozen ((Below.refl w.heap.size w).alloc (Nat.le_refl _) o) hb]; exact h.2.2.1
  · rw [Below.frozen ((Below.refl w.heap.size w).alloc (Nat.le_refl _) o) hb]; exact h.2.2.2
theorem Pair.below {n : Nat} {w w' : World} {B x y : Nat} (h : Pair w B x y) (hb : Below n w w') (hB : B < n) : Pair w' B x y := by
  refine ⟨?_, ?_, ?_, ?_⟩
  · rw [hb.cell hB]; exact h.1
  · rw [hb.cell hB]; exact h.2.1
  · rw [hb.frozen hB]; exact h.2.2.1
  · rw [hb.frozen hB]; exact h.2.2.2
theorem Pair.new (w : World) (x y : Nat) (t : TypeId) : Pair (w.alloc (.cells #[.float .f64 x, .float .f64 y] t)) w.heap.size x y := by
  refine ⟨?_, ?_, ?_, ?_⟩ <;> go_simp

theorem Pair.set {w : World} {B x y : Nat} (h : Pair w B x y) (e0 e1 : Nat) : Pair ((w.setCell ⟨B, 0, none⟩ (.float .f64 e0)).setCell ⟨B, 1, none⟩ (.float .f64 e1)) B e0 e1 := by
  obtain ⟨h0, h1, f0, f1⟩ := h
  refine ⟨?_, ?_, ?_, ?_⟩ <;> go_simp
theorem far2 {w : World} {B e0 e1 : Nat} {p : Addr} (h : p.block ≠ B) : ((w.setCell ⟨B, 0, none⟩ (.float .f64 e0)).setCell ⟨B, 1, none⟩ (.float .f64 e1)).cell? p = w.cell? p := by
  rw [World.cell?_setCell_far _ _ _ _ (Ne.symm h), World.cell?_setCell_far _ _ _ _ (Ne.symm h)]

/-- den and gap of 'moved'. -/
def movedF (a0 a1 p0 p1 g : Nat) : Option (Nat × Nat × Nat) :=
  (floatBits .sub .f64 p0 a0).bind fun d0 =>
  (floatBits .sub .f64 p1 a1).bind fun d1 =>
  (floatBits .mul .f64 a0 d0).bind fun m1 =>
  (floatBits .mul .f64 a1 d1).bind fun m2 =>
  (floatBits .add .f64 m1 m2).bind fun m =>
  (floatBits .sub .f64 g m).bind fun e0 =>
  (floatBits .mul .f64 a1 d0).bind fun m3 =>
  (floatBits .mul .f64 a0 d1).bind fun m4 =>
  (floatBits .sub .f64 m3 m4).bind fun e1 =>
  (gapF p0 p1).bind fun gp =>
  (floatBits .mul .f64 g gp).bind fun n =>
  (floatBits .mul .f64 e0 e0).bind fun q0 =>
  (floatBits .mul .f64 e1 e1).bind fun q1 =>
  (floatBits .add .f64 q0 q1).bind fun q =>
  (floatBits .quo .f64 n q).bind fun r => some (e0, e1, r)

theorem movedF_some {a0 a1 p0 p1 g : Nat} {v : Nat × Nat × Nat} (h : movedF a0 a1 p0 p1 g = some v) : ∃ d0, floatBits .sub .f64 p0 a0 = some d0 ∧ ∃ d1, floatBits .sub .f64 p1 a1 = some d1 ∧ ∃ m1, floatBits .mul .f64 a0 d0 = some m1 ∧ ∃ m2, floatBits .mul .f64 a1 d1 = some m2 ∧ ∃ m, floatBits .add .f64 m1 m2 = some m ∧ ∃ e0, floatBits .sub .f64 g m = some e0 ∧
    ∃ m3, floatBits .mul .f64 a1 d0 = some m3 ∧ ∃ m4, floatBits .mul .f64 a0 d1 = some m4 ∧ ∃ e1, floatBits .sub .f64 m3 m4 = some e1 ∧ ∃ gp, gapF p0 p1 = some gp ∧ ∃ n, floatBits .mul .f64 g gp = some n ∧ ∃ q0, floatBits .mul .f64 e0 e0 = some q0 ∧ ∃ q1, floatBits .mul .f64 e1 e1 = some q1 ∧ ∃ q, floatBits .add .f64 q0 q1 = some q ∧ ∃ r, floatBits .quo .f64 n q = some r ∧ (e0, e1, r) = v := by
  unfold movedF at h
  simpa only [Option.bind_eq_some_iff, Option.some.injEq] using h

set_option maxRecDepth 100000 in
set_option maxHeartbeats 4000000 in
theorem moved_any (AB G pb qb a0 a1 p0 p1 g : Nat) (w : World) (hA : w.cell? ⟨AB, 0, none⟩ = some (.slice (some ⟨qb, 0, none⟩) 2 2)) (hG : w.cell? ⟨G, 0, none⟩ = some (.float .f64 g))
    (hp0 : w.cell? ⟨pb, 0, none⟩ = some (.float .f64 p0)) (hp1 : w.cell? ⟨pb, 1, none⟩ = some (.float .f64 p1)) (ha0 : w.cell? ⟨qb, 0, none⟩ = some (.float .f64 a0)) (ha1 : w.cell? ⟨qb, 1, none⟩ = some (.float .f64 a1)) :
    Calls Yba.prog 19 #[.slice (some ⟨pb, 0, none⟩) 2 2, .pointer (some ⟨AB, 0, none⟩), .pointer (some ⟨G, 0, none⟩)] w fun e w' => ∃ r0 r1 r2, e = .returned (.tuple #[.agg #[.float .f64 r0, .float .f64 r1], .float .f64 r2]) ∧ r0 < 2 ^ 64 ∧ r1 < 2 ^ 64 ∧ r2 < 2 ^ 64 ∧ Below w.heap.size w w' ∧ ∀ v, movedF a0 a1 p0 p1 g = some v → v = (r0, r1, r2) := by
  have had := alloc_drewN
  have hsd := setCell_drewN
  have lA : AB < w.heap.size := World.block_lt_of_cell? w _ hA
  have lG : G < w.heap.size := World.block_lt_of_cell? w _ hG
  have lp : pb < w.heap.size := World.block_lt_of_cell? w _ hp0
  have la : qb < w.heap.size := World.block_lt_of_cell? w _ ha0
  go_enter Yba.func19, Yba.ntmps19
  go_upto_region 1 with fail
  go_cut [6] (fun v wx => v = .pointer (some ⟨w.heap.size + 1, 0, none⟩) ∧ Pair wx w.heap.size 0 0 ∧ Below w.heap.size w wx ∧ ∃ r s, Pair wx (w.heap.size + 1) r s ∧ Hid (Gives (floatBits .sub .f64 p0 a0) r) ∧ Hid (Gives (floatBits .sub .f64 p1 a1) s))
  case first =>
    refine wp_region_noPanic ?_
    obtain ⟨S, hSdef⟩ : ∃ S : World → Prop, S = (fun w' : World => w'.cell? ⟨AB, 0, none⟩ = some (.slice (some ⟨qb, 0, none⟩) 2 2) ∧ w'.cell? ⟨pb, 0, none⟩ = some (.float .f64 p0) ∧ w'.cell? ⟨pb, 1, none⟩ = some (.float .f64 p1) ∧ w'.cell? ⟨qb, 0, none⟩ = some (.float .f64 a0) ∧ w'.cell? ⟨qb, 1, none⟩ = some (.float .f64 a1)) := ⟨_, rfl⟩
    have hCalm : Calm S := by rw [hSdef]; exact fun _ _ h => h
    refine wp_region_D S (by as_aux_lemma => kernel_rfl) ?_
    have hHeld : S ((w.alloc (.cells #[.float .f64 0, .float .f64 0] 25)).drewN 1) := by
      rw [hSdef]
      refine ⟨?_, ?_, ?_, ?_, ?_⟩
      all_goals (simp only [World.cell?_drewN]; rw [World.cell?_alloc_past _ _ _ (by assumption)]; assumption)
    refine getV 0 (.slice (some ⟨pb, 0, none⟩) 2 2) rfl (some 7) (by as_aux_lemma => kernel_rfl) (by as_aux_lemma => kernel_rfl) (by as_aux_lemma => kernel_rfl) (by as_aux_lemma => kernel_rfl) (by as_aux_lemma => kernel_rfl) hCalm hHeld (fun w' hS => by rw [hSdef] at hS; obtain ⟨g1, g2, g3, g4, g5⟩ := hS; go_simp) ?_
    simp only [Act.put, List.setIfInBounds_toArray, List.set_cons_zero, List.set_cons_succ]
    refine getV 1 (.pointer (some ⟨pb, 0, none⟩)) rfl (some 8) (by as_aux_lemma => kernel_rfl) (by as_aux_lemma => kernel_rfl) (by as_aux_lemma => kernel_rfl) (by as_aux_lemma => kernel_rfl) (by as_aux_lemma => kernel_rfl) hCalm hHeld (fun w' hS => by rw [hSdef] at hS; obtain ⟨g1, g2, g3, g4, g5⟩ := hS; go_simp) ?_
    simp only [Act.put, List.setIfInBounds_toArray, List.set_cons_zero, List.set_cons_succ]
    refine getV 2 (.float .f64 p0) rfl (some 9) (by as_aux_lemma => kernel_rfl) (by as_aux_lemma => kernel_rfl) (by as_aux_lemma => kernel_rfl) (by as_aux_lemma => kernel_rfl) (by as_aux_lemma => kernel_rfl) hCalm hHeld (fun w' hS => by rw [hSdef] at hS; obtain ⟨g1, g2, g3, g4, g5⟩ := hS; go_simp) ?_
    simp only [Act.put, List.setIfInBounds_toArray, List.set_cons_zero, List.set_cons_succ]
    refine getV 3 (.slice (some ⟨qb, 0, none⟩) 2 2) rfl (some 10) (by as_aux_lemma => kernel_rfl) (by as_aux_lemma => kernel_rfl) (by as_aux_lemma => kernel_rfl) (by as_aux_lemma => kernel_rfl) (by as_aux_lemma => kernel_rfl) hCalm hHeld (fun w' hS => by rw [hSdef] at hS; obtain ⟨g1, g2, g3, g4, g5⟩ := hS; go_simp) ?_
    simp only [Act.put, List.setIfInBounds_toArray, List.set_cons_zero, List.set_cons_succ]
    refine getV 4 (.pointer (some ⟨qb, 0, none⟩)) rfl (some 11) (by as_aux_lemma => kernel_rfl) (by as_aux_lemma => kernel_rfl) (by as_aux_lemma => kernel_rfl) (by as_aux_lemma => kernel_rfl) (by as_aux_lemma => kernel_rfl) hCalm hHeld (fun w' hS => by rw [hSdef] at hS; obtain ⟨g1, g2, g3, g4, g5⟩ := hS; go_simp) ?_
    simp only [Act.put, List.setIfInBounds_toArray, List.set_cons_zero, List.set_cons_succ]
    refine getV 5 (.float .f64 a0) rfl (some 12) (by as_aux_lemma => kernel_rfl) (by as_aux_lemma => kernel_rfl) (by as_aux_lemma => kernel_rfl) (by as_aux_lemma => kernel_rfl) (by as_aux_lemma => kernel_rfl) hCalm hHeld (fun w' hS => by rw [hSdef] at hS; obtain ⟨g1, g2, g3, g4, g5⟩ := hS; go_simp) ?_
    simp only [Act.put, List.setIfInBounds_toArray, List.set_cons_zero, List.set_cons_succ]
    refine getF 6 [] .sub 22 22 (.tmp 9) (.tmp 12) p0 a0 rfl rfl (.inr (.inl rfl)) (some 13) (by as_aux_lemma => kernel_rfl) (by as_aux_lemma => kernel_rfl) (by as_aux_lemma => kernel_rfl) (by as_aux_lemma => kernel_rfl) (by as_aux_lemma => kernel_rfl) (by as_aux_lemma => kernel_rfl) (by as_aux_lemma => kernel_rfl) hCalm hHeld (by as_aux_lemma => kernel_rfl) (by as_aux_lemma => kernel_rfl) ?_
    intro r hr
    simp only [Act.put, List.setIfInBounds_toArray, List.set_cons_zero, List.set_cons_succ]
    refine getV 7 (.slice (some ⟨pb, 0, none⟩) 2 2) rfl (some 14) (by as_aux_lemma => kernel_rfl) (by as_aux_lemma => kernel_rfl) (by as_aux_lemma => kernel_rfl) (by as_aux_lemma => kernel_rfl) (by as_aux_lemma => kernel_rfl) hCalm hHeld (fun w' hS => by rw [hSdef] at hS; obtain ⟨g1, g2, g3, g4, g5⟩ := hS; go_simp) ?_
    simp only [Act.put, List.setIfInBounds_toArray, List.set_cons_zero, List.set_cons_succ]
    refine getV 8 (.pointer (some ⟨pb, 1, none⟩)) rfl (some 15) (by as_aux_lemma => kernel_rfl) (by as_aux_lemma => kernel_rfl) (by as_aux_lemma => kernel_rfl) (by as_aux_lemma => kernel_rfl) (by as_aux_lemma => kernel_rfl) hCalm hHeld (fun w' hS => by rw [hSdef] at hS; obtain ⟨g1, g2, g3, g4, g5⟩ := hS; go_simp) ?_
    simp only [Act.put, List.setIfInBounds_toArray, List.set_cons_zero, List.set_cons_succ]
    refine getV 9 (.float .f64 p1) rfl (some 16) (by as_aux_lemma => kernel_rfl) (by as_aux_lemma => kernel_rfl) (by as_aux_lemma => kernel_rfl) (by as_aux_lemma => kernel_rfl) (by as_aux_lemma => kernel_rfl) hCalm hHeld (fun w' hS => by rw [hSdef] at hS; obtain ⟨g1, g2, g3, g4, g5⟩ := hS; go_simp) ?_
    simp only [Act.put, List.setIfInBounds_toArray, List.set_cons_zero, List.set_cons_succ]
    refine getV 10 (.slice (some ⟨qb, 0, none⟩) 2 2) rfl (some 17) (by as_aux_lemma => kernel_rfl) (by as_aux_lemma => kernel_rfl) (by as_aux_lemma => kernel_rfl) (by as_aux_lemma => kernel_rfl) (by as_aux_lemma => kernel_rfl) hCalm hHeld (fun w' hS => by rw [hSdef] at hS; obtain ⟨g1, g2, g3, g4, g5⟩ := hS; go_simp) ?_
    simp only [Act.put, List.setIfInBounds_toArray, List.set_cons_zero, List.set_cons_succ]
    refine getV 11 (.pointer (some ⟨qb, 1, none⟩)) rfl (some 18) (by as_aux_lemma => kernel_rfl) (by as_aux_lemma => kernel_rfl) (by as_aux_lemma => kernel_rfl) (by as_aux_lemma => kernel_rfl) (by as_aux_lemma => kernel_rfl) hCalm hHeld (fun w' hS => by rw [hSdef] at hS; obtain ⟨g1, g2, g3, g4, g5⟩ := hS; go_simp) ?_
    simp only [Act.put, List.setIfInBounds_toArray, List.set_cons_zero, List.set_cons_succ]
    refine getV 12 (.float .f64 a1) rfl (some 19) (by as_aux_lemma => kernel_rfl) (by as_aux_lemma => kernel_rfl) (by as_aux_lemma => kernel_rfl) (by as_aux_lemma => kernel_rfl) (by as_aux_lemma => kernel_rfl) hCalm hHeld (fun w' hS => by rw [hSdef] at hS; obtain ⟨g1, g2, g3, g4, g5⟩ := hS; go_simp) ?_
    simp only [Act.put, List.setIfInBounds_toArray, List.set_cons_zero, List.set_cons_succ]
    refine getF 13 [] .sub 22 22 (.tmp 16) (.tmp 19) p1 a1 rfl rfl (.inr (.inl rfl)) (some 20) (by as_aux_lemma => kernel_rfl) (by as_aux_lemma => kernel_rfl) (by as_aux_lemma => kernel_rfl) (by as_aux_lemma => kernel_rfl) (by as_aux_lemma => kernel_rfl) (by as_aux_lemma => kernel_rfl) (by as_aux_lemma => kernel_rfl) hCalm hHeld (by as_aux_lemma => kernel_rfl) (by as_aux_lemma => kernel_rfl) ?_
    intro s hs
    simp only [Act.put, List.setIfInBounds_toArray, List.set_cons_zero, List.set_cons_succ]
    refine getV 14 (.agg #[.float .f64 r, .float .f64 s]) rfl (some 21) (by as_aux_lemma => kernel_rfl) (by as_aux_lemma => kernel_rfl) (by as_aux_lemma => kernel_rfl) (by as_aux_lemma => kernel_rfl) (by as_aux_lemma => kernel_rfl) hCalm hHeld (fun w' hS => by rw [hSdef] at hS; obtain ⟨g1, g2, g3, g4, g5⟩ := hS; go_simp) ?_
    simp only [Act.put, List.setIfInBounds_toArray, List.set_cons_zero, List.set_cons_succ]
    refine soleV 15 (.pointer (some ⟨w.heap.size + 1, 0, none⟩)) (((w.alloc (.cells #[.float .f64 0, .float .f64 0] 25)).alloc (.cells #[.float .f64 0, .float .f64 0] 25)).drewN 1) rfl (some 6) (by as_aux_lemma => kernel_rfl) (by as_aux_lemma => kernel_rfl) (by as_aux_lemma => kernel_rfl) hCalm ?_ (fun d => ?_) ?_
    · rw [hSdef]
      refine ⟨?_, ?_, ?_, ?_, ?_⟩
      all_goals (simp only [World.cell?_drewN]; rw [World.cell?_alloc_past _ _ _ (by simp only [World.size_alloc]; omega), World.cell?_alloc_past _ _ _ (by assumption)]; assumption)
    · clear hHeld hCalm hSdef
      go_simp
    simp only [Act.put, List.setIfInBounds_toArray, List.set_cons_zero, List.set_cons_succ]
    refine soleS 16 (((w.alloc (.cells #[.float .f64 0, .float .f64 0] 25)).alloc (.cells #[.float .f64 r, .float .f64 s] 25)).drewN 1) rfl none (by as_aux_lemma => kernel_rfl) (by as_aux_lemma => kernel_rfl) (by as_aux_lemma => kernel_rfl) hCalm ?_ (fun d => ?_) ?_
    · rw [hSdef]
      refine ⟨?_, ?_, ?_, ?_, ?_⟩
      all_goals (simp only [World.cell?_drewN]; rw [World.cell?_alloc_past _ _ _ (by simp only [World.size_alloc]; omega), World.cell?_alloc_past _ _ _ (by assumption)]; assumption)
    · clear hHeld hCalm hSdef
      go_simp
    simp only [Act.put, List.setIfInBounds_toArray, List.set_cons_zero, List.set_cons_succ]
    refine doneD (by as_aux_lemma => kernel_rfl) (fun d => ?_)
    go_wp2
    go_meet
    exact ⟨rfl, (((Pair.new w 0 0 25).alloc _).drewN 1).drewN d, below_drewN (below_drewN (below2 _ _ _) _) _, r, s, by have h := Pair.new (w.alloc (.cells #[.float .f64 0, .float .f64 0] 25)) r s 25; rw [World.size_alloc] at h; exact (h.drewN 1).drewN d, hr, hs⟩
  case rest =>
    obtain ⟨rfl, hB, hbel, r, s, hD, hr, hs⟩ := hcut
    have sz : w.heap.size ≤ wc.heap.size := hbel.size
    have kA : wc.cell? ⟨AB, 0, none⟩ = some (.slice (some ⟨qb, 0, none⟩) 2 2) := by rw [hbel.cell lA]; exact hA
    have kG : wc.cell? ⟨G, 0, none⟩ = some (.float .f64 g) := by rw [hbel.cell lG]; exact hG
    have kp0 : wc.cell? ⟨pb, 0, none⟩ = some (.float .f64 p0) := by rw [hbel.cell lp]; exact hp0
    have kp1 : wc.cell? ⟨pb, 1, none⟩ = some (.float .f64 p1) := by rw [hbel.cell lp]; exact hp1
    have ka0 : wc.cell? ⟨qb, 0, none⟩ = some (.float .f64 a0) := by rw [hbel.cell la]; exact ha0
    have ka1 : wc.cell? ⟨qb, 1, none⟩ = some (.float .f64 a1) := by rw [hbel.cell la]; exact ha1
    clear hA hG hp0 hp1 ha0 ha1
    obtain ⟨kB0, kB1, fB0, fB1⟩ := hB
    obtain ⟨kD0, kD1, fD0, fD1⟩ := hD
    clear fD0 fD1
    obtain ⟨B, hBd⟩ : ∃ B, B = w.heap.size := ⟨_, rfl⟩
    obtain ⟨D, hDd⟩ : ∃ D, D = B + 1 := ⟨_, rfl⟩
    rw [← hBd] at kB0 kB1 fB0 fB1
    rw [← hBd, ← hDd] at kD0 kD1
    go_upto_region 2 with fail
    rw [← hBd, ← hDd]
    have oB : w.heap.size ≤ B := by omega
    have oA : AB < B := by omega
    have oG : G < B := by omega
    have op : pb < B := by omega
    have oq : qb < B := by omega
    have oD : B < D := by omega
    clear hBd hDd
    go_cut [50] (fun v wx => ∃ e0 e1, v = .agg #[.float .f64 e0, .float .f64 e1] ∧ wx.cell? ⟨G, 0, none⟩ = some (.float .f64 g) ∧ wx.cell? ⟨pb, 0, none⟩ = some (.float .f64 p0) ∧ wx.cell? ⟨pb, 1, none⟩ = some (.float .f64 p1) ∧ Pair wx B e0 e1 ∧ Below w.heap.size w wx ∧ ∃ m1 m2 m m3 m4, Hid (Gives (floatBits .mul .f64 a0 r) m1) ∧ Hid (Gives (floatBits .mul .f64 a1 s) m2) ∧ Hid (Gives (floatBits .add .f64 m1 m2) m) ∧ Hid (Gives (floatBits .sub .f64 g m) e0) ∧ Hid (Gives (floatBits .mul .f64 a1 r) m3) ∧ Hid (Gives (floatBits .mul .f64 a0 s) m4) ∧ Hid (Gives (floatBits .sub .f64 m3 m4) e1))
    case first =>
      refine wp_region_noPanic ?_
      obtain ⟨S, hSdef⟩ : ∃ S : World → Prop, S = (fun w' : World => w'.cell? ⟨AB, 0, none⟩ = some (.slice (some ⟨qb, 0, none⟩) 2 2) ∧ w'.cell? ⟨G, 0, none⟩ = some (.float .f64 g) ∧ w'.cell? ⟨qb, 0, none⟩ = some (.float .f64 a0) ∧ w'.cell? ⟨qb, 1, none⟩ = some (.float .f64 a1) ∧ w'.cell? ⟨D, 0, none⟩ = some (.float .f64 r) ∧ w'.cell? ⟨D, 1, none⟩ = some (.float .f64 s)) := ⟨_, rfl⟩
      have hCalm : Calm S := by rw [hSdef]; exact fun _ _ h => h
      refine wp_region_D S (by as_aux_lemma => kernel_rfl) ?_
      have hHeld : S (wc.drewN 1) := by
        rw [hSdef]
        exact ⟨kA, kG, ka0, ka1, kD0, kD1⟩
      refine getV 0 (.float .f64 g) rfl (some 22) (by as_aux_lemma => kernel_rfl) (by as_aux_lemma => kernel_rfl) (by as_aux_lemma => kernel_rfl) (by as_aux_lemma => kernel_rfl) (by as_aux_lemma => kernel_rfl) hCalm hHeld (fun w' hS => by rw [hSdef] at hS; obtain ⟨g1, g2, g3, g4, g5, g6⟩ := hS; go_simp) ?_
      simp only [Act.put, List.setIfInBounds_toArray, List.set_cons_zero, List.set_cons_succ]
      refine getV 1 (.slice (some ⟨qb, 0, none⟩) 2 2) rfl (some 23) (by as_aux_lemma => kernel_rfl) (by as_aux_lemma => kernel_rfl) (by as_aux_lemma => kernel_rfl) (by as_aux_lemma => kernel_rfl) (by as_aux_lemma => kernel_rfl) hCalm hHeld (fun w' hS => by rw [hSdef] at hS; obtain ⟨g1, g2, g3, g4, g5, g6⟩ := hS; go_simp) ?_
      simp only [Act.put, List.setIfInBounds_toArray, List.set_cons_zero, List.set_cons_succ]
      refine getV 2 (.pointer (some ⟨qb, 0, none⟩)) rfl (some 24) (by as_aux_lemma => kernel_rfl) (by as_aux_lemma => kernel_rfl) (by as_aux_lemma => kernel_rfl) (by as_aux_lemma => kernel_rfl) (by as_aux_lemma => kernel_rfl) hCalm hHeld (fun w' hS => by rw [hSdef] at hS; obtain ⟨g1, g2, g3, g4, g5, g6⟩ := hS; go_simp) ?_
      simp only [Act.put, List.setIfInBounds_toArray, List.set_cons_zero, List.set_cons_succ]
      refine getV 3 (.float .f64 a0) rfl (some 25) (by as_aux_lemma => kernel_rfl) (by as_aux_lemma => kernel_rfl) (by as_aux_lemma => kernel_rfl) (by as_aux_lemma => kernel_rfl) (by as_aux_lemma => kernel_rfl) hCalm hHeld (fun w' hS => by rw [hSdef] at hS; obtain ⟨g1, g2, g3, g4, g5, g6⟩ := hS; go_simp) ?_
      simp only [Act.put, List.setIfInBounds_toArray, List.set_cons_zero, List.set_cons_succ]
      refine getV 4 (.pointer (some ⟨D, 0, none⟩)) rfl (some 26) (by as_aux_lemma => kernel_rfl) (by as_aux_lemma => kernel_rfl) (by as_aux_lemma => kernel_rfl) (by as_aux_lemma => kernel_rfl) (by as_aux_lemma => kernel_rfl) hCalm hHeld (fun w' hS => by rw [hSdef] at hS; obtain ⟨g1, g2, g3, g4, g5, g6⟩ := hS; go_simp) ?_
      simp only [Act.put, List.setIfInBounds_toArray, List.set_cons_zero, List.set_cons_succ]
      refine getV 5 (.float .f64 r) rfl (some 27) (by as_aux_lemma => kernel_rfl) (by as_aux_lemma => kernel_rfl) (by as_aux_lemma => kernel_rfl) (by as_aux_lemma => kernel_rfl) (by as_aux_lemma => kernel_rfl) hCalm hHeld (fun w' hS => by rw [hSdef] at hS; obtain ⟨g1, g2, g3, g4, g5, g6⟩ := hS; go_simp) ?_
      simp only [Act.put, List.setIfInBounds_toArray, List.set_cons_zero, List.set_cons_succ]
      refine getF 6 [] .mul 22 22 (.tmp 25) (.tmp 27) a0 r rfl rfl (.inr (.inr (.inl rfl))) (some 28) (by as_aux_lemma => kernel_rfl) (by as_aux_lemma => kernel_rfl) (by as_aux_lemma => kernel_rfl) (by as_aux_lemma => kernel_rfl) (by as_aux_lemma => kernel_rfl) (by as_aux_lemma => kernel_rfl) (by as_aux_lemma => kernel_rfl) hCalm hHeld (by as_aux_lemma => kernel_rfl) (by as_aux_lemma => kernel_rfl) ?_
      intro m1 hm1
      simp only [Act.put, List.setIfInBounds_toArray, List.set_cons_zero, List.set_cons_succ]
      refine getV 7 (.slice (some ⟨qb, 0, none⟩) 2 2) rfl (some 29) (by as_aux_lemma => kernel_rfl) (by as_aux_lemma => kernel_rfl) (by as_aux_lemma => kernel_rfl) (by as_aux_lemma => kernel_rfl) (by as_aux_lemma => kernel_rfl) hCalm hHeld (fun w' hS => by rw [hSdef] at hS; obtain ⟨g1, g2, g3, g4, g5, g6⟩ := hS; go_simp) ?_
      simp only [Act.put, List.setIfInBounds_toArray, List.set_cons_zero, List.set_cons_succ]
      refine getV 8 (.pointer (some ⟨qb, 1, none⟩)) rfl (some 30) (by as_aux_lemma => kernel_rfl) (by as_aux_lemma => kernel_rfl) (by as_aux_lemma => kernel_rfl) (by as_aux_lemma => kernel_rfl) (by as_aux_lemma => kernel_rfl) hCalm hHeld (fun w' hS => by rw [hSdef] at hS; obtain ⟨g1, g2, g3, g4, g5, g6⟩ := hS; go_simp) ?_
      simp only [Act.put, List.setIfInBounds_toArray, List.set_cons_zero, List.set_cons_succ]
      refine getV 9 (.float .f64 a1) rfl (some 31) (by as_aux_lemma => kernel_rfl) (by as_aux_lemma => kernel_rfl) (by as_aux_lemma => kernel_rfl) (by as_aux_lemma => kernel_rfl) (by as_aux_lemma => kernel_rfl) hCalm hHeld (fun w' hS => by rw [hSdef] at hS; obtain ⟨g1, g2, g3, g4, g5, g6⟩ := hS; go_simp) ?_
      simp only [Act.put, List.setIfInBounds_toArray, List.set_cons_zero, List.set_cons_succ]
      refine getV 10 (.pointer (some ⟨D, 1, none⟩)) rfl (some 32) (by as_aux_lemma => kernel_rfl) (by as_aux_lemma => kernel_rfl) (by as_aux_lemma => kernel_rfl) (by as_aux_lemma => kernel_rfl) (by as_aux_lemma => kernel_rfl) hCalm hHeld (fun w' hS => by rw [hSdef] at hS; obtain ⟨g1, g2, g3, g4, g5, g6⟩ := hS; go_simp) ?_
      simp only [Act.put, List.setIfInBounds_toArray, List.set_cons_zero, List.set_cons_succ]
      refine getV 11 (.float .f64 s) rfl (some 33) (by as_aux_lemma => kernel_rfl) (by as_aux_lemma => kernel_rfl) (by as_aux_lemma => kernel_rfl) (by as_aux_lemma => kernel_rfl) (by as_aux_lemma => kernel_rfl) hCalm hHeld (fun w' hS => by rw [hSdef] at hS; obtain ⟨g1, g2, g3, g4, g5, g6⟩ := hS; go_simp) ?_
      simp only [Act.put, List.setIfInBounds_toArray, List.set_cons_zero, List.set_cons_succ]
      refine getF 12 [] .mul 22 22 (.tmp 31) (.tmp 33) a1 s rfl rfl (.inr (.inr (.inl rfl))) (some 34) (by as_aux_lemma => kernel_rfl) (by as_aux_lemma => kernel_rfl) (by as_aux_lemma => kernel_rfl) (by as_aux_lemma => kernel_rfl) (by as_aux_lemma => kernel_rfl) (by as_aux_lemma => kernel_rfl) (by as_aux_lemma => kernel_rfl) hCalm hHeld (by as_aux_lemma => kernel_rfl) (by as_aux_lemma => kernel_rfl) ?_
      intro m2 hm2
      simp only [Act.put, List.setIfInBounds_toArray, List.set_cons_zero, List.set_cons_succ]
      refine getF 13 [] .add 22 22 (.tmp 28) (.tmp 34) m1 m2 rfl rfl (.inl rfl) (some 35) (by as_aux_lemma => kernel_rfl) (by as_aux_lemma => kernel_rfl) (by as_aux_lemma => kernel_rfl) (by as_aux_lemma => kernel_rfl) (by as_aux_lemma => kernel_rfl) (by as_aux_lemma => kernel_rfl) (by as_aux_lemma => kernel_rfl) hCalm hHeld (by as_aux_lemma => kernel_rfl) (by as_aux_lemma => kernel_rfl) ?_
      intro m hm
      simp only [Act.put, List.setIfInBounds_toArray, List.set_cons_zero, List.set_cons_succ]
      refine getF 14 [] .sub 22 22 (.tmp 22) (.tmp 35) g m rfl rfl (.inr (.inl rfl)) (some 36) (by as_aux_lemma => kernel_rfl) (by as_aux_lemma => kernel_rfl) (by as_aux_lemma => kernel_rfl) (by as_aux_lemma => kernel_rfl) (by as_aux_lemma => kernel_rfl) (by as_aux_lemma => kernel_rfl) (by as_aux_lemma => kernel_rfl) hCalm hHeld (by as_aux_lemma => kernel_rfl) (by as_aux_lemma => kernel_rfl) ?_
      intro e0 he0
      simp only [Act.put, List.setIfInBounds_toArray, List.set_cons_zero, List.set_cons_succ]
      refine getV 15 (.slice (some ⟨qb, 0, none⟩) 2 2) rfl (some 37) (by as_aux_lemma => kernel_rfl) (by as_aux_lemma => kernel_rfl) (by as_aux_lemma => kernel_rfl) (by as_aux_lemma => kernel_rfl) (by as_aux_lemma => kernel_rfl) hCalm hHeld (fun w' hS => by rw [hSdef] at hS; obtain ⟨g1, g2, g3, g4, g5, g6⟩ := hS; go_simp) ?_
      simp only [Act.put, List.setIfInBounds_toArray, List.set_cons_zero, List.set_cons_succ]
      refine getV 16 (.pointer (some ⟨qb, 1, none⟩)) rfl (some 38) (by as_aux_lemma => kernel_rfl) (by as_aux_lemma => kernel_rfl) (by as_aux_lemma => kernel_rfl) (by as_aux_lemma => kernel_rfl) (by as_aux_lemma => kernel_rfl) hCalm hHeld (fun w' hS => by rw [hSdef] at hS; obtain ⟨g1, g2, g3, g4, g5, g6⟩ := hS; go_simp) ?_
      simp only [Act.put, List.setIfInBounds_toArray, List.set_cons_zero, List.set_cons_succ]
      refine getV 17 (.float .f64 a1) rfl (some 39) (by as_aux_lemma => kernel_rfl) (by as_aux_lemma => kernel_rfl) (by as_aux_lemma => kernel_rfl) (by as_aux_lemma => kernel_rfl) (by as_aux_lemma => kernel_rfl) hCalm hHeld (fun w' hS => by rw [hSdef] at hS; obtain ⟨g1, g2, g3, g4, g5, g6⟩ := hS; go_simp) ?_
      simp only [Act.put, List.setIfInBounds_toArray, List.set_cons_zero, List.set_cons_succ]
      refine getV 18 (.pointer (some ⟨D, 0, none⟩)) rfl (some 40) (by as_aux_lemma => kernel_rfl) (by as_aux_lemma => kernel_rfl) (by as_aux_lemma => kernel_rfl) (by as_aux_lemma => kernel_rfl) (by as_aux_lemma => kernel_rfl) hCalm hHeld (fun w' hS => by rw [hSdef] at hS; obtain ⟨g1, g2, g3, g4, g5, g6⟩ := hS; go_simp) ?_
      simp only [Act.put, List.setIfInBounds_toArray, List.set_cons_zero, List.set_cons_succ]
      refine getV 19 (.float .f64 r) rfl (some 41) (by as_aux_lemma => kernel_rfl) (by as_aux_lemma => kernel_rfl) (by as_aux_lemma => kernel_rfl) (by as_aux_lemma => kernel_rfl) (by as_aux_lemma => kernel_rfl) hCalm hHeld (fun w' hS => by rw [hSdef] at hS; obtain ⟨g1, g2, g3, g4, g5, g6⟩ := hS; go_simp) ?_
      simp only [Act.put, List.setIfInBounds_toArray, List.set_cons_zero, List.set_cons_succ]
      refine getF 20 [] .mul 22 22 (.tmp 39) (.tmp 41) a1 r rfl rfl (.inr (.inr (.inl rfl))) (some 42) (by as_aux_lemma => kernel_rfl) (by as_aux_lemma => kernel_rfl) (by as_aux_lemma => kernel_rfl) (by as_aux_lemma => kernel_rfl) (by as_aux_lemma => kernel_rfl) (by as_aux_lemma => kernel_rfl) (by as_aux_lemma => kernel_rfl) hCalm hHeld (by as_aux_lemma => kernel_rfl) (by as_aux_lemma => kernel_rfl) ?_
      intro m3 hm3
      simp only [Act.put, List.setIfInBounds_toArray, List.set_cons_zero, List.set_cons_succ]
      refine getV 21 (.slice (some ⟨qb, 0, none⟩) 2 2) rfl (some 43) (by as_aux_lemma => kernel_rfl) (by as_aux_lemma => kernel_rfl) (by as_aux_lemma => kernel_rfl) (by as_aux_lemma => kernel_rfl) (by as_aux_lemma => kernel_rfl) hCalm hHeld (fun w' hS => by rw [hSdef] at hS; obtain ⟨g1, g2, g3, g4, g5, g6⟩ := hS; go_simp) ?_
      simp only [Act.put, List.setIfInBounds_toArray, List.set_cons_zero, List.set_cons_succ]
      refine getV 22 (.pointer (some ⟨qb, 0, none⟩)) rfl (some 44) (by as_aux_lemma => kernel_rfl) (by as_aux_lemma => kernel_rfl) (by as_aux_lemma => kernel_rfl) (by as_aux_lemma => kernel_rfl) (by as_aux_lemma => kernel_rfl) hCalm hHeld (fun w' hS => by rw [hSdef] at hS; obtain ⟨g1, g2, g3, g4, g5, g6⟩ := hS; go_simp) ?_
      simp only [Act.put, List.setIfInBounds_toArray, List.set_cons_zero, List.set_cons_succ]
      refine getV 23 (.float .f64 a0) rfl (some 45) (by as_aux_lemma => kernel_rfl) (by as_aux_lemma => kernel_rfl) (by as_aux_lemma => kernel_rfl) (by as_aux_lemma => kernel_rfl) (by as_aux_lemma => kernel_rfl) hCalm hHeld (fun w' hS => by rw [hSdef] at hS; obtain ⟨g1, g2, g3, g4, g5, g6⟩ := hS; go_simp) ?_
      simp only [Act.put, List.setIfInBounds_toArray, List.set_cons_zero, List.set_cons_succ]
      refine getV 24 (.pointer (some ⟨D, 1, none⟩)) rfl (some 46) (by as_aux_lemma => kernel_rfl) (by as_aux_lemma => kernel_rfl) (by as_aux_lemma => kernel_rfl) (by as_aux_lemma => kernel_rfl) (by as_aux_lemma => kernel_rfl) hCalm hHeld (fun w' hS => by rw [hSdef] at hS; obtain ⟨g1, g2, g3, g4, g5, g6⟩ := hS; go_simp) ?_
      simp only [Act.put, List.setIfInBounds_toArray, List.set_cons_zero, List.set_cons_succ]
      refine getV 25 (.float .f64 s) rfl (some 47) (by as_aux_lemma => kernel_rfl) (by as_aux_lemma => kernel_rfl) (by as_aux_lemma => kernel_rfl) (by as_aux_lemma => kernel_rfl) (by as_aux_lemma => kernel_rfl) hCalm hHeld (fun w' hS => by rw [hSdef] at hS; obtain ⟨g1, g2, g3, g4, g5, g6⟩ := hS; go_simp) ?_
      simp only [Act.put, List.setIfInBounds_toArray, List.set_cons_zero, List.set_cons_succ]
      refine getF 26 [] .mul 22 22 (.tmp 45) (.tmp 47) a0 s rfl rfl (.inr (.inr (.inl rfl))) (some 48) (by as_aux_lemma => kernel_rfl) (by as_aux_lemma => kernel_rfl) (by as_aux_lemma => kernel_rfl) (by as_aux_lemma => kernel_rfl) (by as_aux_lemma => kernel_rfl) (by as_aux_lemma => kernel_rfl) (by as_aux_lemma => kernel_rfl) hCalm hHeld (by as_aux_lemma => kernel_rfl) (by as_aux_lemma => kernel_rfl) ?_
      intro m4 hm4
      simp only [Act.put, List.setIfInBounds_toArray, List.set_cons_zero, List.set_cons_succ]
      refine getF 27 [] .sub 22 22 (.tmp 42) (.tmp 48) m3 m4 rfl rfl (.inr (.inl rfl)) (some 49) (by as_aux_lemma => kernel_rfl) (by as_aux_lemma => kernel_rfl) (by as_aux_lemma => kernel_rfl) (by as_aux_lemma => kernel_rfl) (by as_aux_lemma => kernel_rfl) (by as_aux_lemma => kernel_rfl) (by as_aux_lemma => kernel_rfl) hCalm hHeld (by as_aux_lemma => kernel_rfl) (by as_aux_lemma => kernel_rfl) ?_
      intro e1 he1
      simp only [Act.put, List.setIfInBounds_toArray, List.set_cons_zero, List.set_cons_succ]
      refine getV 28 (.agg #[.float .f64 e0, .float .f64 e1]) rfl (some 50) (by as_aux_lemma => kernel_rfl) (by as_aux_lemma => kernel_rfl) (by as_aux_lemma => kernel_rfl) (by as_aux_lemma => kernel_rfl) (by as_aux_lemma => kernel_rfl) hCalm hHeld (fun w' hS => by rw [hSdef] at hS; obtain ⟨g1, g2, g3, g4, g5, g6⟩ := hS; go_simp) ?_
      simp only [Act.put, List.setIfInBounds_toArray, List.set_cons_zero, List.set_cons_succ]
      refine soleS 29 (((wc.setCell ⟨B, 0, none⟩ (.float .f64 e0)).setCell ⟨B, 1, none⟩ (.float .f64 e1)).drewN 1) rfl none (by as_aux_lemma => kernel_rfl) (by as_aux_lemma => kernel_rfl) (by as_aux_lemma => kernel_rfl) hCalm ?_ (fun d => ?_) ?_
      · rw [hSdef]
        refine ⟨?_, ?_, ?_, ?_, ?_, ?_⟩
        all_goals (simp only [World.cell?_drewN]; rw [World.cell?_setCell_far _ _ _ _ (by simp only [ne_eq]; omega), World.cell?_setCell_far _ _ _ _ (by simp only [ne_eq]; omega)]; assumption)
      · clear hHeld hCalm hSdef
        go_simp
      simp only [Act.put, List.setIfInBounds_toArray, List.set_cons_zero, List.set_cons_succ]
      refine doneD (by as_aux_lemma => kernel_rfl) (fun d => ?_)
      go_wp2
      go_meet
      exact ⟨e0, e1, rfl, (far2 (by simp only [ne_eq]; omega)).trans kG, (far2 (by simp only [ne_eq]; omega)).trans kp0, (far2 (by simp only [ne_eq]; omega)).trans kp1, ((Pair.set ⟨kB0, kB1, fB0, fB1⟩ e0 e1).drewN 1).drewN d, below_drewN (below_drewN ((hbel.setCell oB _).setCell oB _) _) _, m1, m2, m, m3, m4, hm1, hm2, hm, he0, hm3, hm4, he1⟩
    case rest =>
      clear kA kG kp0 kp1 ka0 ka1 kB0 kB1 fB0 fB1 kD0 kD1 hbel sz
      obtain ⟨e0, e1, rfl, kG, kp0, kp1, hB, hbel, m1, m2, m, m3, m4, hm1, hm2, hm, he0, hm3, hm4, he1⟩ := hcut
      obtain ⟨kB0, kB1, fB0, fB1⟩ := hB
      go_upto_region 3 with fail
      refine wp_region_noPanic ?_
      obtain ⟨S, hSdef⟩ : ∃ S : World → Prop, S = (fun w' : World => w'.cell? ⟨G, 0, none⟩ = some (.float .f64 g) ∧ w'.cell? ⟨pb, 0, none⟩ = some (.float .f64 p0) ∧ w'.cell? ⟨pb, 1, none⟩ = some (.float .f64 p1) ∧ w'.cell? ⟨B, 0, none⟩ = some (.float .f64 e0) ∧ w'.cell? ⟨B, 1, none⟩ = some (.float .f64 e1)) := ⟨_, rfl⟩
      have hCalm : Calm S := by rw [hSdef]; exact fun _ _ h => h
      refine wp_region_D S (by as_aux_lemma => kernel_rfl) ?_
      have hHeld : S (wc.drewN 1) := by
        rw [hSdef]
        exact ⟨kG, kp0, kp1, kB0, kB1⟩
      refine getV 2 (.slice (some ⟨pb, 0, none⟩) 2 2) rfl (some 53) (by as_aux_lemma => kernel_rfl) (by as_aux_lemma => kernel_rfl) (by as_aux_lemma => kernel_rfl) (by as_aux_lemma => kernel_rfl) (by as_aux_lemma => kernel_rfl) hCalm hHeld (fun w' hS => by rw [hSdef] at hS; obtain ⟨g1, g2, g3, g4, g5⟩ := hS; go_simp) ?_
      simp only [Act.put, List.setIfInBounds_toArray, List.set_cons_zero, List.set_cons_succ]
      refine getC 3 [] 18 #[.slice (some ⟨pb, 0, none⟩) 2 2] (fun v => ∃ gp, v = .float .f64 gp ∧ Hid (gp < 2 ^ 64 ∧ ∀ v, gapF p0 p1 = some v → gp = v)) rfl (some 54) (by as_aux_lemma => kernel_rfl) (by as_aux_lemma => kernel_rfl) (by as_aux_lemma => kernel_rfl) (by as_aux_lemma => kernel_rfl) (by as_aux_lemma => kernel_rfl) (by as_aux_lemma => kernel_rfl) (by as_aux_lemma => kernel_rfl) hCalm hHeld ?_ (fun w' hS => by rw [hSdef] at hS; obtain ⟨g1, g2, g3, g4, g5⟩ := hS; go_simp) (fun w' hS => ?_) ?_
      · obtain ⟨e, w', fr, ⟨r, d, _, h1, _, h2⟩, _⟩ := rimGap_any pb 0 2 p0 p1 wc kp0 kp1 []
        exact ⟨_, r, rfl, h1, h2⟩
      · rw [hSdef] at hS
        refine (rimGap_any pb 0 2 p0 p1 w' hS.2.1 hS.2.2.1).mono ?_
        rintro e w1 ⟨r, d, rfl, h1, rfl, h2⟩
        exact ⟨_, d, ⟨r, rfl, h1, h2⟩, rfl, rfl⟩
      rintro _ ⟨gp, rfl, hgp⟩
      simp only [Act.put, List.setIfInBounds_toArray, List.set_cons_zero, List.set_cons_succ]
      refine getV 0 (.agg #[.float .f64 e0, .float .f64 e1]) rfl (some 51) (by as_aux_lemma => kernel_rfl) (by as_aux_lemma => kernel_rfl) (by as_aux_lemma => kernel_rfl) (by as_aux_lemma => kernel_rfl) (by as_aux_lemma => kernel_rfl) hCalm hHeld (fun w' hS => by rw [hSdef] at hS; obtain ⟨g1, g2, g3, g4, g5⟩ := hS; go_simp) ?_
      simp only [Act.put, List.setIfInBounds_toArray, List.set_cons_zero, List.set_cons_succ]
      refine getV 1 (.float .f64 g) rfl (some 52) (by as_aux_lemma => kernel_rfl) (by as_aux_lemma => kernel_rfl) (by as_aux_lemma => kernel_rfl) (by as_aux_lemma => kernel_rfl) (by as_aux_lemma => kernel_rfl) hCalm hHeld (fun w' hS => by rw [hSdef] at hS; obtain ⟨g1, g2, g3, g4, g5⟩ := hS; go_simp) ?_
      simp only [Act.put, List.setIfInBounds_toArray, List.set_cons_zero, List.set_cons_succ]
      refine getF 4 [] .mul 22 22 (.tmp 52) (.tmp 54) g gp rfl rfl (.inr (.inr (.inl rfl))) (some 55) (by as_aux_lemma => kernel_rfl) (by as_aux_lemma => kernel_rfl) (by as_aux_lemma => kernel_rfl) (by as_aux_lemma => kernel_rfl) (by as_aux_lemma => kernel_rfl) (by as_aux_lemma => kernel_rfl) (by as_aux_lemma => kernel_rfl) hCalm hHeld (by as_aux_lemma => kernel_rfl) (by as_aux_lemma => kernel_rfl) ?_
      intro n hn
      simp only [Act.put, List.setIfInBounds_toArray, List.set_cons_zero, List.set_cons_succ]
      refine getV 5 (.pointer (some ⟨B, 0, none⟩)) rfl (some 56) (by as_aux_lemma => kernel_rfl) (by as_aux_lemma => kernel_rfl) (by as_aux_lemma => kernel_rfl) (by as_aux_lemma => kernel_rfl) (by as_aux_lemma => kernel_rfl) hCalm hHeld (fun w' hS => by rw [hSdef] at hS; obtain ⟨g1, g2, g3, g4, g5⟩ := hS; go_simp) ?_
      simp only [Act.put, List.setIfInBounds_toArray, List.set_cons_zero, List.set_cons_succ]
      refine getV 6 (.float .f64 e0) rfl (some 57) (by as_aux_lemma => kernel_rfl) (by as_aux_lemma => kernel_rfl) (by as_aux_lemma => kernel_rfl) (by as_aux_lemma => kernel_rfl) (by as_aux_lemma => kernel_rfl) hCalm hHeld (fun w' hS => by rw [hSdef] at hS; obtain ⟨g1, g2, g3, g4, g5⟩ := hS; go_simp) ?_
      simp only [Act.put, List.setIfInBounds_toArray, List.set_cons_zero, List.set_cons_succ]
      refine getV 7 (.pointer (some ⟨B, 0, none⟩)) rfl (some 58) (by as_aux_lemma => kernel_rfl) (by as_aux_lemma => kernel_rfl) (by as_aux_lemma => kernel_rfl) (by as_aux_lemma => kernel_rfl) (by as_aux_lemma => kernel_rfl) hCalm hHeld (fun w' hS => by rw [hSdef] at hS; obtain ⟨g1, g2, g3, g4, g5⟩ := hS; go_simp) ?_
      simp only [Act.put, List.setIfInBounds_toArray, List.set_cons_zero, List.set_cons_succ]
      refine getV 8 (.float .f64 e0) rfl (some 59) (by as_aux_lemma => kernel_rfl) (by as_aux_lemma => kernel_rfl) (by as_aux_lemma => kernel_rfl) (by as_aux_lemma => kernel_rfl) (by as_aux_lemma => kernel_rfl) hCalm hHeld (fun w' hS => by rw [hSdef] at hS; obtain ⟨g1, g2, g3, g4, g5⟩ := hS; go_simp) ?_
      simp only [Act.put, List.setIfInBounds_toArray, List.set_cons_zero, List.set_cons_succ]
      refine getF 9 [] .mul 22 22 (.tmp 57) (.tmp 59) e0 e0 rfl rfl (.inr (.inr (.inl rfl))) (some 60) (by as_aux_lemma => kernel_rfl) (by as_aux_lemma => kernel_rfl) (by as_aux_lemma => kernel_rfl) (by as_aux_lemma => kernel_rfl) (by as_aux_lemma => kernel_rfl) (by as_aux_lemma => kernel_rfl) (by as_aux_lemma => kernel_rfl) hCalm hHeld (by as_aux_lemma => kernel_rfl) (by as_aux_lemma => kernel_rfl) ?_
      intro q0 hq0
      simp only [Act.put, List.setIfInBounds_toArray, List.set_cons_zero, List.set_cons_succ]
      refine getV 10 (.pointer (some ⟨B, 1, none⟩)) rfl (some 61) (by as_aux_lemma => kernel_rfl) (by as_aux_lemma => kernel_rfl) (by as_aux_lemma => kernel_rfl) (by as_aux_lemma => kernel_rfl) (by as_aux_lemma => kernel_rfl) hCalm hHeld (fun w' hS => by rw [hSdef] at hS; obtain ⟨g1, g2, g3, g4, g5⟩ := hS; go_simp) ?_
      simp only [Act.put, List.setIfInBounds_toArray, List.set_cons_zero, List.set_cons_succ]
      refine getV 11 (.float .f64 e1) rfl (some 62) (by as_aux_lemma => kernel_rfl) (by as_aux_lemma => kernel_rfl) (by as_aux_lemma => kernel_rfl) (by as_aux_lemma => kernel_rfl) (by as_aux_lemma => kernel_rfl) hCalm hHeld (fun w' hS => by rw [hSdef] at hS; obtain ⟨g1, g2, g3, g4, g5⟩ := hS; go_simp) ?_
      simp only [Act.put, List.setIfInBounds_toArray, List.set_cons_zero, List.set_cons_succ]
      refine getV 12 (.pointer (some ⟨B, 1, none⟩)) rfl (some 63) (by as_aux_lemma => kernel_rfl) (by as_aux_lemma => kernel_rfl) (by as_aux_lemma => kernel_rfl) (by as_aux_lemma => kernel_rfl) (by as_aux_lemma => kernel_rfl) hCalm hHeld (fun w' hS => by rw [hSdef] at hS; obtain ⟨g1, g2, g3, g4, g5⟩ := hS; go_simp) ?_
      simp only [Act.put, List.setIfInBounds_toArray, List.set_cons_zero, List.set_cons_succ]
      refine getV 13 (.float .f64 e1) rfl (some 64) (by as_aux_lemma => kernel_rfl) (by as_aux_lemma => kernel_rfl) (by as_aux_lemma => kernel_rfl) (by as_aux_lemma => kernel_rfl) (by as_aux_lemma => kernel_rfl) hCalm hHeld (fun w' hS => by rw [hSdef] at hS; obtain ⟨g1, g2, g3, g4, g5⟩ := hS; go_simp) ?_
      simp only [Act.put, List.setIfInBounds_toArray, List.set_cons_zero, List.set_cons_succ]
      refine getF 14 [] .mul 22 22 (.tmp 62) (.tmp 64) e1 e1 rfl rfl (.inr (.inr (.inl rfl))) (some 65) (by as_aux_lemma => kernel_rfl) (by as_aux_lemma => kernel_rfl) (by as_aux_lemma => kernel_rfl) (by as_aux_lemma => kernel_rfl) (by as_aux_lemma => kernel_rfl) (by as_aux_lemma => kernel_rfl) (by as_aux_lemma => kernel_rfl) hCalm hHeld (by as_aux_lemma => kernel_rfl) (by as_aux_lemma => kernel_rfl) ?_
      intro q1 hq1
      simp only [Act.put, List.setIfInBounds_toArray, List.set_cons_zero, List.set_cons_succ]
      refine getF 15 [] .add 22 22 (.tmp 60) (.tmp 65) q0 q1 rfl rfl (.inl rfl) (some 66) (by as_aux_lemma => kernel_rfl) (by as_aux_lemma => kernel_rfl) (by as_aux_lemma => kernel_rfl) (by as_aux_lemma => kernel_rfl) (by as_aux_lemma => kernel_rfl) (by as_aux_lemma => kernel_rfl) (by as_aux_lemma => kernel_rfl) hCalm hHeld (by as_aux_lemma => kernel_rfl) (by as_aux_lemma => kernel_rfl) ?_
      intro q hq
      simp only [Act.put, List.setIfInBounds_toArray, List.set_cons_zero, List.set_cons_succ]
      refine getF 16 [] .quo 22 22 (.tmp 55) (.tmp 66) n q rfl rfl (.inr (.inr (.inr rfl))) (some 67) (by as_aux_lemma => kernel_rfl) (by as_aux_lemma => kernel_rfl) (by as_aux_lemma => kernel_rfl) (by as_aux_lemma => kernel_rfl) (by as_aux_lemma => kernel_rfl) (by as_aux_lemma => kernel_rfl) (by as_aux_lemma => kernel_rfl) hCalm hHeld (by as_aux_lemma => kernel_rfl) (by as_aux_lemma => kernel_rfl) ?_
      intro z hz
      simp only [Act.put, List.setIfInBounds_toArray, List.set_cons_zero, List.set_cons_succ]
      have hHeld2 : S (((wc.setCell ⟨B, 0, none⟩ (.float .f64 e0)).setCell ⟨B, 1, none⟩ (.float .f64 e1)).drewN 1) := by
        rw [hSdef]
        exact ⟨(far2 (by simp only [ne_eq]; omega)).trans kG, (far2 (by simp only [ne_eq]; omega)).trans kp0, (far2 (by simp only [ne_eq]; omega)).trans kp1, (Pair.set ⟨kB0, kB1, fB0, fB1⟩ e0 e1).1, (Pair.set ⟨kB0, kB1, fB0, fB1⟩ e0 e1).2.1⟩
      refine soleS 17 (((wc.setCell ⟨B, 0, none⟩ (.float .f64 e0)).setCell ⟨B, 1, none⟩ (.float .f64 e1)).drewN 1) rfl none (by as_aux_lemma => kernel_rfl) (by as_aux_lemma => kernel_rfl) (by as_aux_lemma => kernel_rfl) hCalm hHeld2 (fun d => ?_) ?_
      · clear hHeld hCalm hSdef hHeld2
        go_simp
      simp only [Act.put, List.setIfInBounds_toArray, List.set_cons_zero, List.set_cons_succ]
      refine soleV 18 (.float .f64 z) (((wc.setCell ⟨B, 0, none⟩ (.float .f64 e0)).setCell ⟨B, 1, none⟩ (.float .f64 e1)).drewN 1) rfl (some 5) (by as_aux_lemma => kernel_rfl) (by as_aux_lemma => kernel_rfl) (by as_aux_lemma => kernel_rfl) hCalm hHeld2 (fun d => ?_) ?_
      · clear hHeld hCalm hSdef hHeld2
        go_simp
      simp only [Act.put, List.setIfInBounds_toArray, List.set_cons_zero, List.set_cons_succ]
      refine doneD (by as_aux_lemma => kernel_rfl) (fun d => ?_)
      clear hHeld hCalm hSdef hHeld2
      go_wp2
      refine bodyPost_ret (v := .tuple #[.agg #[.float .f64 e0, .float .f64 e1], .float .f64 z]) (by simp [results, Yba.results19, go_sem, kB0, kB1]) rfl ⟨e0, e1, z, rfl, he0.out.1, he1.out.1, hz.out.1, below_drewN (below_drewN ((hbel.setCell oB _).setCell oB _) _) _, fun v hv => ?_⟩
      obtain ⟨d0', i1, d1', i2, m1', i3, m2', i4, m', i5, e0', i6, m3', i7, m4', i8, e1', i9, gp', i10, n', i11, q0', i12, q1', i13, q', i14, z', i15, rfl⟩ := movedF_some hv
      obtain rfl := hr.out.2 _ i1
      obtain rfl := hs.out.2 _ i2
      obtain rfl := hm1.out.2 _ i3
      obtain rfl := hm2.out.2 _ i4
      obtain rfl := hm.out.2 _ i5
      obtain rfl := he0.out.2 _ i6
      obtain rfl := hm3.out.2 _ i7
      obtain rfl := hm4.out.2 _ i8
      obtain rfl := he1.out.2 _ i9
      obtain rfl := hgp.out.2 _ i10
      obtain rfl := hn.out.2 _ i11
      obtain rfl := hq0.out.2 _ i12
      obtain rfl := hq1.out.2 _ i13
      obtain rfl := hq.out.2 _ i14
      obtain rfl := hz.out.2 _ i15
      rfl

end Go.Proofs.Ybulkavii.A
