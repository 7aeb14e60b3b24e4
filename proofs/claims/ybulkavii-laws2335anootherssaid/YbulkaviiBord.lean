/-
  Seat b2335a, laws A: Borders (function 9) with no others.
-/
import Derived.Test.YbulkaviiMeet2
import Derived.Test.YbulkaviiMoved
import Derived.Test.YbulkaviiTwoC
namespace Go.Proofs.Ybulkavii.A
open Go Go.RowKit
set_option linter.unusedSimpArgs false

theorem wrap_small (n : Int) (h0 : -100000 ≤ n) (h1 : n ≤ 100000) : IntKind.i64.wrap n = n := by
  simp [IntKind.wrap, IntKind.bits, IntKind.signed]
  omega

theorem below3 (w : World) (o p q : Obj) : Below w.heap.size w (((w.alloc o).alloc p).alloc q) := (((Below.refl _ _).alloc (Nat.le_refl _) _).alloc (by simp) _).alloc (by simp; omega) _

set_option maxRecDepth 100000 in
set_option maxHeartbeats 8000000 in
theorem borders_none (pb qb a0 a1 p0 p1 : Nat) (w : World)
    (hp0 : w.cell? ⟨pb, 0, none⟩ = some (.float .f64 p0)) (hp1 : w.cell? ⟨pb, 1, none⟩ = some (.float .f64 p1)) (ha0 : w.cell? ⟨qb, 0, none⟩ = some (.float .f64 a0)) (ha1 : w.cell? ⟨qb, 1, none⟩ = some (.float .f64 a1)) :
    Calls Yba.prog 9 #[.agg #[], .slice (some ⟨qb, 0, none⟩) 2 2, .slice (some ⟨pb, 0, none⟩) 2 2, .slice none 0 0] w fun e w' => e = .returned (.bool true) ∧ Below w.heap.size w w' := by
  have had := alloc_drewN
  have hsd := setCell_drewN
  have lp : pb < w.heap.size := World.block_lt_of_cell? w _ hp0
  have la : qb < w.heap.size := World.block_lt_of_cell? w _ ha0
  go_enter Yba.func9, Yba.ntmps9
  go_upto_region 2 with (go_at_call 17; refine (twoC_two _ 2 2 (some ⟨qb, 0, none⟩) (some ⟨pb, 0, none⟩) _ (by go_simp; done) (by go_simp; done)).mono ?_; rintro e w1 ⟨rfl, rfl⟩)
  go_upto_region 3 with (go_at_call 17; refine (twoC_none _).mono ?_; rintro e w1 ⟨rfl, rfl⟩)
  go_cut [58] (fun v wx => ∃ c, v = .bool c ∧ wx.cell? ⟨w.heap.size + 1, 0, none⟩ = some (.slice (some ⟨qb, 0, none⟩) 2 2) ∧ Below w.heap.size w wx)
  case first => as_aux_lemma =>
    have kk : ∀ (o1 o2 o3 : Obj) (p : Addr), p.block < w.heap.size → (((w.alloc o1).alloc o2).alloc o3).cell? p = w.cell? p := fun o1 o2 o3 p hp => (below3 w o1 o2 o3).cell hp
    have kp0 := fun o1 o2 o3 => (kk o1 o2 o3 ⟨pb, 0, none⟩ lp).trans hp0
    have kp1 := fun o1 o2 o3 => (kk o1 o2 o3 ⟨pb, 1, none⟩ lp).trans hp1
    have ka0 := fun o1 o2 o3 => (kk o1 o2 o3 ⟨qb, 0, none⟩ la).trans ha0
    have ka1 := fun o1 o2 o3 => (kk o1 o2 o3 ⟨qb, 1, none⟩ la).trans ha1
    clear kk
    cases h0 : (ord p0 a0 == some .eq) <;> cases h1 : (ord p1 a1 == some .eq)
    all_goals
      go_region
      go_wp2
      go_meet
      exact ⟨_, rfl, by go_simp, below_drewN (below3 _ _ _ _) _⟩
  case rest =>
    obtain ⟨c, rfl, kA, hbel⟩ := hcut
    have kp0 : wc.cell? ⟨pb, 0, none⟩ = some (.float .f64 p0) := by rw [hbel.cell lp]; exact hp0
    have kp1 : wc.cell? ⟨pb, 1, none⟩ = some (.float .f64 p1) := by rw [hbel.cell lp]; exact hp1
    have ka0 : wc.cell? ⟨qb, 0, none⟩ = some (.float .f64 a0) := by rw [hbel.cell la]; exact ha0
    have ka1 : wc.cell? ⟨qb, 1, none⟩ = some (.float .f64 a1) := by rw [hbel.cell la]; exact ha1
    clear hp0 hp1 ha0 ha1
    obtain ⟨AB, hAB⟩ : ∃ AB, AB = w.heap.size + 1 := ⟨_, rfl⟩
    rw [← hAB] at kA ⊢
    have lA : AB < wc.heap.size := World.block_lt_of_cell? wc _ kA
    have lp' : pb < wc.heap.size := World.block_lt_of_cell? wc _ kp0
    have la' : qb < wc.heap.size := World.block_lt_of_cell? wc _ ka0
    clear hAB
    cases c with
    | true =>
      go_wp2
      go_ret
      exact ⟨rfl, hbel⟩
    | false =>
      go_upto_region 6 with (go_at_call 18; refine (rimGap_any qb 0 2 a0 a1 _ ka0 ka1).mono ?_; rintro e w1 ⟨g, dg, rfl, hg, rfl, hgF⟩; have HG := hidden hg; have HGF := hidden hgF; clear hg hgF)
      have hG : (wc.alloc (.cells #[.float .f64 g] 22)).cell? ⟨wc.heap.size, 0, none⟩ = some (.float .f64 g) := by go_simp
      have hW := (Below.refl wc.heap.size wc).alloc (Nat.le_refl _) (.cells #[.float .f64 g] 22)
      have sW : wc.heap.size ≤ (wc.alloc (.cells #[.float .f64 g] 22)).heap.size := hW.size
      go_upto_region 8 with (go_at_call 19; refine (moved_any AB wc.heap.size pb qb a0 a1 p0 p1 g ((wc.alloc (.cells #[.float .f64 g] 22)).drewN dg) ((hW.cell lA).trans kA) hG ((hW.cell lp').trans kp0) ((hW.cell lp').trans kp1) ((hW.cell la').trans ka0) ((hW.cell la').trans ka1)).mono ?_; rintro e w2 ⟨r0, r1, r2, rfl, l0, l1, l2, hb2, hv2⟩; have HL := hidden (And.intro l0 (And.intro l1 (And.intro l2 hv2))); clear l0 l1 l2 hv2)
      have hb3 : Below wc.heap.size wc w2 := (below_drewN hW dg).trans (hb2.mono sW)
      clear hb2 hW sW hG
      have lA2 : AB < w2.heap.size := Nat.lt_of_lt_of_le lA hb3.size
      have jA := (hb3.cell (p := ⟨AB, 0, none⟩) lA).trans kA
      have jp0 := (hb3.cell (p := ⟨pb, 0, none⟩) lp').trans kp0
      have jp1 := (hb3.cell (p := ⟨pb, 1, none⟩) lp').trans kp1
      have ja0 := (hb3.cell (p := ⟨qb, 0, none⟩) la').trans ka0
      have ja1 := (hb3.cell (p := ⟨qb, 1, none⟩) la').trans ka1
      clear kA kp0 kp1 ka0 ka1
      obtain ⟨W, hWd⟩ : ∃ W, W = w2.alloc (.cells #[.float .f64 r0, .float .f64 r1] 25) := ⟨_, rfl⟩
      obtain ⟨DB, hDB⟩ : ∃ DB, DB = w2.heap.size := ⟨_, rfl⟩
      have hP : Pair W DB r0 r1 := by rw [hWd, hDB]; exact Pair.new _ _ _ _
      have hb4 : Below wc.heap.size wc W := by rw [hWd]; exact hb3.alloc hb3.size _
      have hb5 : Below w2.heap.size w2 W := by rw [hWd]; exact (Below.refl _ _).alloc (Nat.le_refl _) _
      have iA := (hb5.cell (p := ⟨AB, 0, none⟩) lA2).trans jA
      have ip0 := (hb5.cell (p := ⟨pb, 0, none⟩) (Nat.lt_of_lt_of_le lp' hb3.size)).trans jp0
      have ip1 := (hb5.cell (p := ⟨pb, 1, none⟩) (Nat.lt_of_lt_of_le lp' hb3.size)).trans jp1
      have ia0 := (hb5.cell (p := ⟨qb, 0, none⟩) (Nat.lt_of_lt_of_le la' hb3.size)).trans ja0
      have ia1 := (hb5.cell (p := ⟨qb, 1, none⟩) (Nat.lt_of_lt_of_le la' hb3.size)).trans ja1
      have bA : AB < W.heap.size := Nat.lt_of_lt_of_le lA2 hb5.size
      have bp : pb < W.heap.size := Nat.lt_of_lt_of_le lp' hb4.size
      have bq : qb < W.heap.size := Nat.lt_of_lt_of_le la' hb4.size
      have bD : DB < W.heap.size := World.block_lt_of_cell? W _ hP.1
      obtain ⟨iD0, iD1, fD0, fD1⟩ := hP
      rw [← hWd, ← hDB]
      clear jA jp0 jp1 ja0 ja1 hb5 fD0 fD1 hWd hDB
      go_cut [13] (fun v wx => ∃ BM x y, v = .pointer (some ⟨BM, 0, none⟩) ∧ w.heap.size ≤ BM ∧ Below w.heap.size w wx ∧ Pair wx BM x y ∧ Hid (x < 2 ^ 64 ∧ y < 2 ^ 64))
      case first => as_aux_lemma =>
        refine wp_region_noPanic ?_
        obtain ⟨S, hSdef⟩ : ∃ S : World → Prop, S = (fun w' : World => w'.cell? ⟨AB, 0, none⟩ = some (.slice (some ⟨qb, 0, none⟩) 2 2) ∧ w'.cell? ⟨pb, 0, none⟩ = some (.float .f64 p0) ∧ w'.cell? ⟨pb, 1, none⟩ = some (.float .f64 p1) ∧ w'.cell? ⟨qb, 0, none⟩ = some (.float .f64 a0) ∧ w'.cell? ⟨qb, 1, none⟩ = some (.float .f64 a1) ∧ w'.cell? ⟨DB, 0, none⟩ = some (.float .f64 r0) ∧ w'.cell? ⟨DB, 1, none⟩ = some (.float .f64 r1)) := ⟨_, rfl⟩
        have hCalm : Calm S := by rw [hSdef]; exact fun _ _ h => h
        refine wp_region_D S (by as_aux_lemma => kernel_rfl) ?_
        have hStep : ∀ w', Below W.heap.size W w' → S w' := fun w' hb => by
          rw [hSdef]
          exact ⟨(hb.cell bA).trans iA, (hb.cell bp).trans ip0, (hb.cell bp).trans ip1, (hb.cell bq).trans ia0, (hb.cell bq).trans ia1, (hb.cell bD).trans iD0, (hb.cell bD).trans iD1⟩
        have hHeld : S (W.drewN 1) := by
          rw [hSdef]
          exact ⟨iA, ip0, ip1, ia0, ia1, iD0, iD1⟩
        refine getV 0 (.slice (some ⟨pb, 0, none⟩) 2 2) rfl (some 68) (by as_aux_lemma => kernel_rfl) (by as_aux_lemma => kernel_rfl) (by as_aux_lemma => kernel_rfl) (by as_aux_lemma => kernel_rfl) (by as_aux_lemma => kernel_rfl) hCalm hHeld (fun w' hS => by rw [hSdef] at hS; obtain ⟨g1, g2, g3, g4, g5, g6, g7⟩ := hS; go_simp) ?_
        simp only [Act.put, List.setIfInBounds_toArray, List.set_cons_zero, List.set_cons_succ]
        refine getV 1 (.pointer (some ⟨pb, 0, none⟩)) rfl (some 69) (by as_aux_lemma => kernel_rfl) (by as_aux_lemma => kernel_rfl) (by as_aux_lemma => kernel_rfl) (by as_aux_lemma => kernel_rfl) (by as_aux_lemma => kernel_rfl) hCalm hHeld (fun w' hS => by rw [hSdef] at hS; obtain ⟨g1, g2, g3, g4, g5, g6, g7⟩ := hS; go_simp) ?_
        simp only [Act.put, List.setIfInBounds_toArray, List.set_cons_zero, List.set_cons_succ]
        refine getV 2 (.float .f64 p0) rfl (some 70) (by as_aux_lemma => kernel_rfl) (by as_aux_lemma => kernel_rfl) (by as_aux_lemma => kernel_rfl) (by as_aux_lemma => kernel_rfl) (by as_aux_lemma => kernel_rfl) hCalm hHeld (fun w' hS => by rw [hSdef] at hS; obtain ⟨g1, g2, g3, g4, g5, g6, g7⟩ := hS; go_simp) ?_
        simp only [Act.put, List.setIfInBounds_toArray, List.set_cons_zero, List.set_cons_succ]
        refine getV 3 (.slice (some ⟨qb, 0, none⟩) 2 2) rfl (some 71) (by as_aux_lemma => kernel_rfl) (by as_aux_lemma => kernel_rfl) (by as_aux_lemma => kernel_rfl) (by as_aux_lemma => kernel_rfl) (by as_aux_lemma => kernel_rfl) hCalm hHeld (fun w' hS => by rw [hSdef] at hS; obtain ⟨g1, g2, g3, g4, g5, g6, g7⟩ := hS; go_simp) ?_
        simp only [Act.put, List.setIfInBounds_toArray, List.set_cons_zero, List.set_cons_succ]
        refine getV 4 (.pointer (some ⟨qb, 0, none⟩)) rfl (some 72) (by as_aux_lemma => kernel_rfl) (by as_aux_lemma => kernel_rfl) (by as_aux_lemma => kernel_rfl) (by as_aux_lemma => kernel_rfl) (by as_aux_lemma => kernel_rfl) hCalm hHeld (fun w' hS => by rw [hSdef] at hS; obtain ⟨g1, g2, g3, g4, g5, g6, g7⟩ := hS; go_simp) ?_
        simp only [Act.put, List.setIfInBounds_toArray, List.set_cons_zero, List.set_cons_succ]
        refine getV 5 (.float .f64 a0) rfl (some 73) (by as_aux_lemma => kernel_rfl) (by as_aux_lemma => kernel_rfl) (by as_aux_lemma => kernel_rfl) (by as_aux_lemma => kernel_rfl) (by as_aux_lemma => kernel_rfl) hCalm hHeld (fun w' hS => by rw [hSdef] at hS; obtain ⟨g1, g2, g3, g4, g5, g6, g7⟩ := hS; go_simp) ?_
        simp only [Act.put, List.setIfInBounds_toArray, List.set_cons_zero, List.set_cons_succ]
        refine getF 6 [14, 16, 18] .sub 22 22 (.tmp 70) (.tmp 73) p0 a0 rfl rfl (.inr (.inl rfl)) (some 74) (by as_aux_lemma => kernel_rfl) (by as_aux_lemma => kernel_rfl) (by as_aux_lemma => kernel_rfl) (by as_aux_lemma => kernel_rfl) (by as_aux_lemma => kernel_rfl) (by as_aux_lemma => kernel_rfl) (by as_aux_lemma => kernel_rfl) hCalm hHeld (by as_aux_lemma => kernel_rfl) (by as_aux_lemma => kernel_rfl) ?_
        intro s0 hs0
        simp only [Act.put, List.setIfInBounds_toArray, List.set_cons_zero, List.set_cons_succ]
        refine getV 7 (.slice (some ⟨pb, 0, none⟩) 2 2) rfl (some 75) (by as_aux_lemma => kernel_rfl) (by as_aux_lemma => kernel_rfl) (by as_aux_lemma => kernel_rfl) (by as_aux_lemma => kernel_rfl) (by as_aux_lemma => kernel_rfl) hCalm hHeld (fun w' hS => by rw [hSdef] at hS; obtain ⟨g1, g2, g3, g4, g5, g6, g7⟩ := hS; go_simp) ?_
        simp only [Act.put, List.setIfInBounds_toArray, List.set_cons_zero, List.set_cons_succ]
        refine getV 8 (.pointer (some ⟨pb, 1, none⟩)) rfl (some 76) (by as_aux_lemma => kernel_rfl) (by as_aux_lemma => kernel_rfl) (by as_aux_lemma => kernel_rfl) (by as_aux_lemma => kernel_rfl) (by as_aux_lemma => kernel_rfl) hCalm hHeld (fun w' hS => by rw [hSdef] at hS; obtain ⟨g1, g2, g3, g4, g5, g6, g7⟩ := hS; go_simp) ?_
        simp only [Act.put, List.setIfInBounds_toArray, List.set_cons_zero, List.set_cons_succ]
        refine getV 9 (.float .f64 p1) rfl (some 77) (by as_aux_lemma => kernel_rfl) (by as_aux_lemma => kernel_rfl) (by as_aux_lemma => kernel_rfl) (by as_aux_lemma => kernel_rfl) (by as_aux_lemma => kernel_rfl) hCalm hHeld (fun w' hS => by rw [hSdef] at hS; obtain ⟨g1, g2, g3, g4, g5, g6, g7⟩ := hS; go_simp) ?_
        simp only [Act.put, List.setIfInBounds_toArray, List.set_cons_zero, List.set_cons_succ]
        refine getV 10 (.slice (some ⟨qb, 0, none⟩) 2 2) rfl (some 78) (by as_aux_lemma => kernel_rfl) (by as_aux_lemma => kernel_rfl) (by as_aux_lemma => kernel_rfl) (by as_aux_lemma => kernel_rfl) (by as_aux_lemma => kernel_rfl) hCalm hHeld (fun w' hS => by rw [hSdef] at hS; obtain ⟨g1, g2, g3, g4, g5, g6, g7⟩ := hS; go_simp) ?_
        simp only [Act.put, List.setIfInBounds_toArray, List.set_cons_zero, List.set_cons_succ]
        refine getV 11 (.pointer (some ⟨qb, 1, none⟩)) rfl (some 79) (by as_aux_lemma => kernel_rfl) (by as_aux_lemma => kernel_rfl) (by as_aux_lemma => kernel_rfl) (by as_aux_lemma => kernel_rfl) (by as_aux_lemma => kernel_rfl) hCalm hHeld (fun w' hS => by rw [hSdef] at hS; obtain ⟨g1, g2, g3, g4, g5, g6, g7⟩ := hS; go_simp) ?_
        simp only [Act.put, List.setIfInBounds_toArray, List.set_cons_zero, List.set_cons_succ]
        refine getV 12 (.float .f64 a1) rfl (some 80) (by as_aux_lemma => kernel_rfl) (by as_aux_lemma => kernel_rfl) (by as_aux_lemma => kernel_rfl) (by as_aux_lemma => kernel_rfl) (by as_aux_lemma => kernel_rfl) hCalm hHeld (fun w' hS => by rw [hSdef] at hS; obtain ⟨g1, g2, g3, g4, g5, g6, g7⟩ := hS; go_simp) ?_
        simp only [Act.put, List.setIfInBounds_toArray, List.set_cons_zero, List.set_cons_succ]
        refine getF 13 [14, 16, 18] .sub 22 22 (.tmp 77) (.tmp 80) p1 a1 rfl rfl (.inr (.inl rfl)) (some 81) (by as_aux_lemma => kernel_rfl) (by as_aux_lemma => kernel_rfl) (by as_aux_lemma => kernel_rfl) (by as_aux_lemma => kernel_rfl) (by as_aux_lemma => kernel_rfl) (by as_aux_lemma => kernel_rfl) (by as_aux_lemma => kernel_rfl) hCalm hHeld (by as_aux_lemma => kernel_rfl) (by as_aux_lemma => kernel_rfl) ?_
        intro s1 hs1
        simp only [Act.put, List.setIfInBounds_toArray, List.set_cons_zero, List.set_cons_succ]
        refine getV 14 (.agg #[.float .f64 s0, .float .f64 s1]) rfl (some 82) (by as_aux_lemma => kernel_rfl) (by as_aux_lemma => kernel_rfl) (by as_aux_lemma => kernel_rfl) (by as_aux_lemma => kernel_rfl) (by as_aux_lemma => kernel_rfl) hCalm hHeld (fun w' hS => by rw [hSdef] at hS; obtain ⟨g1, g2, g3, g4, g5, g6, g7⟩ := hS; go_simp) ?_
        simp only [Act.put, List.setIfInBounds_toArray, List.set_cons_zero, List.set_cons_succ]
        refine getV 15 (.agg #[.float .f64 r0, .float .f64 r1]) rfl (some 83) (by as_aux_lemma => kernel_rfl) (by as_aux_lemma => kernel_rfl) (by as_aux_lemma => kernel_rfl) (by as_aux_lemma => kernel_rfl) (by as_aux_lemma => kernel_rfl) hCalm hHeld (fun w' hS => by rw [hSdef] at hS; obtain ⟨g1, g2, g3, g4, g5, g6, g7⟩ := hS; go_simp) ?_
        simp only [Act.put, List.setIfInBounds_toArray, List.set_cons_zero, List.set_cons_succ]
        have hQuo : ∀ W', Below W.heap.size W W' → ∀ d, Calls Yba.prog 20 #[.agg #[.float .f64 s0, .float .f64 s1], .agg #[.float .f64 r0, .float .f64 r1]] ((W'.drewN 1).drewN d) fun e w' => ∃ v, e = .returned v ∧ S w' ∧ ∃ x y, v = .agg #[.float .f64 x, .float .f64 y] ∧ Below W'.heap.size W' w' ∧ Hid (x < 2 ^ 64 ∧ y < 2 ^ 64) := fun W' hW' d => by
          refine (quo_any s0 s1 r0 r1 _).mono ?_
          rintro e w' ⟨x, y, rfl, hx, hy, hb, hv⟩
          have hb' : Below W'.heap.size W' w' := (below_drewN (below_drewN (Below.refl _ _) 1) d).trans hb
          exact ⟨_, rfl, hStep _ (hW'.trans (hb'.mono hW'.size)), x, y, rfl, hb', hx, hy⟩
        refine both 16 17 (by as_aux_lemma => kernel_rfl) ?_ ?_
        · refine wayC 16 20 #[.agg #[.float .f64 s0, .float .f64 s1], .agg #[.float .f64 r0, .float .f64 r1]] (fun v w' => ∃ x y, v = .agg #[.float .f64 x, .float .f64 y] ∧ Below W.heap.size W w' ∧ Hid (x < 2 ^ 64 ∧ y < 2 ^ 64)) rfl (some 84) (by as_aux_lemma => kernel_rfl) (by as_aux_lemma => kernel_rfl) (fun d => by clear hQuo; go_simp) (hQuo _ (Below.refl _ _)) ?_
          rintro _ w3 hS3 ⟨x, y, rfl, hb6, hxy⟩
          simp only [Act.put, List.setIfInBounds_toArray, List.set_cons_zero, List.set_cons_succ]
          refine soleV 17 (.pointer (some ⟨w3.heap.size, 0, none⟩)) (w3.alloc (.cells #[.float .f64 0, .float .f64 0] 25)) rfl (some 13) (by as_aux_lemma => kernel_rfl) (by as_aux_lemma => kernel_rfl) (by as_aux_lemma => kernel_rfl) hCalm (hStep _ (hb6.alloc hb6.size _)) (fun d => by clear hHeld hCalm hSdef hStep hS3 hQuo; go_simp) ?_
          simp only [Act.put, List.setIfInBounds_toArray, List.set_cons_zero, List.set_cons_succ]
          refine soleS 18 (w3.alloc (.cells #[.float .f64 x, .float .f64 y] 25)) rfl none (by as_aux_lemma => kernel_rfl) (by as_aux_lemma => kernel_rfl) (by as_aux_lemma => kernel_rfl) hCalm (hStep _ (hb6.alloc hb6.size _)) (fun d => by clear hHeld hCalm hSdef hStep hS3 hQuo; go_simp) ?_
          simp only [Act.put, List.setIfInBounds_toArray, List.set_cons_zero, List.set_cons_succ]
          refine doneD (by as_aux_lemma => kernel_rfl) (fun d => ?_)
          clear hQuo hHeld hCalm hSdef hStep hS3
          go_wp2
          go_meet
          exact ⟨w3.heap.size, x, y, rfl, Nat.le_trans (Nat.le_trans hbel.size hb4.size) hb6.size, hbel.trans ((below_drewN (hb4.trans ((hb6.alloc hb6.size _).mono hb4.size)) _).mono hbel.size), (Pair.new _ _ _ _).drewN d, hxy⟩
        · have hb5 : Below W.heap.size W (W.alloc (.cells #[.float .f64 0, .float .f64 0] 25)) := (Below.refl _ _).alloc (Nat.le_refl _) _
          refine wayV 17 (.pointer (some ⟨W.heap.size, 0, none⟩)) ((W.alloc (.cells #[.float .f64 0, .float .f64 0] 25)).drewN 1) rfl (some 13) (by as_aux_lemma => kernel_rfl) (by as_aux_lemma => kernel_rfl) hCalm (hStep _ (below_drewN hb5 1)) (fun d => by clear hHeld hCalm hSdef hStep hQuo; go_simp) ?_
          simp only [Act.put, List.setIfInBounds_toArray, List.set_cons_zero, List.set_cons_succ]
          refine soleC 16 20 #[.agg #[.float .f64 s0, .float .f64 s1], .agg #[.float .f64 r0, .float .f64 r1]] (fun v w' => ∃ x y, v = .agg #[.float .f64 x, .float .f64 y] ∧ Below (W.alloc (.cells #[.float .f64 0, .float .f64 0] 25)).heap.size (W.alloc (.cells #[.float .f64 0, .float .f64 0] 25)) w' ∧ Hid (x < 2 ^ 64 ∧ y < 2 ^ 64)) rfl (some 84) (by as_aux_lemma => kernel_rfl) (by as_aux_lemma => kernel_rfl) (by as_aux_lemma => kernel_rfl) (fun d => by clear hQuo; go_simp) (hQuo _ hb5) ?_
          rintro _ w3 hS3 ⟨x, y, rfl, hb6, hxy⟩
          have hP3 : Pair w3 W.heap.size 0 0 := (Pair.new W 0 0 25).below hb6 (by simp)
          have hb7 : Below W.heap.size W w3 := hb5.trans (hb6.mono hb5.size)
          have hb8 := (hb7.setCell (p := ⟨W.heap.size, 0, none⟩) (Nat.le_refl _) (.float .f64 x)).setCell (p := ⟨W.heap.size, 1, none⟩) (Nat.le_refl _) (.float .f64 y)
          simp only [Act.put, List.setIfInBounds_toArray, List.set_cons_zero, List.set_cons_succ]
          refine soleS 18 ((w3.setCell ⟨W.heap.size, 0, none⟩ (.float .f64 x)).setCell ⟨W.heap.size, 1, none⟩ (.float .f64 y)) rfl none (by as_aux_lemma => kernel_rfl) (by as_aux_lemma => kernel_rfl) (by as_aux_lemma => kernel_rfl) hCalm (hStep _ hb8) (fun d => by clear hHeld hCalm hSdef hStep hS3 hQuo hb8 hb7 hb5 hb6; obtain ⟨c0, c1, f0, f1⟩ := hP3; go_simp) ?_
          simp only [Act.put, List.setIfInBounds_toArray, List.set_cons_zero, List.set_cons_succ]
          refine doneD (by as_aux_lemma => kernel_rfl) (fun d => ?_)
          clear hQuo hHeld hCalm hSdef hStep hS3
          go_wp2
          go_meet
          exact ⟨W.heap.size, x, y, rfl, Nat.le_trans hbel.size hb4.size, hbel.trans ((below_drewN (hb4.trans (hb8.mono hb4.size)) _).mono hbel.size), (hP3.set x y).drewN d, hxy⟩
      case rest =>
        obtain ⟨BM, x, y, rfl, lBM, hb9, ⟨c0, c1, f0, f1⟩, hxy⟩ := hcut
        go_upto_region 12 with fail
        refine wp_loop_rounds 1 ?_
        rw [rounds_succ]
        have lB : BM < wc.heap.size := World.block_lt_of_cell? wc _ c0
        have hVc : (wc.alloc (.cells #[.slice (some ⟨BM, 0, none⟩) 2 2] 26)).cell? ⟨wc.heap.size, 0, none⟩ = some (.slice (some ⟨BM, 0, none⟩) 2 2) := by go_simp
        have hbV := (Below.refl wc.heap.size wc).alloc (Nat.le_refl _) (.cells #[.slice (some ⟨BM, 0, none⟩) 2 2] 26)
        go_upto_region 19 with fail
        go_cut [21] (fun v wx => ∃ ex x1 y1, v = .int .i64 ex ∧ -1100 ≤ ex ∧ ex ≤ 1100 ∧ Pair wx BM x1 y1 ∧ Below w.heap.size w wx)
        case first => as_aux_lemma =>
          go_wp2_with (go_at_call 21; refine (scale_one wc.heap.size BM x y (wc.alloc (.cells #[.slice (some ⟨BM, 0, none⟩) 2 2] 26)) hxy.out.1 hxy.out.2 hVc ((hbV.cell lB).trans c0) ((hbV.cell lB).trans c1) ((hbV.frozen lB).trans f0) ((hbV.frozen lB).trans f1)).mono ?_; rintro e w5 ⟨ex, x1, y1, d5, rfl, rfl, hex, hx1, hy1⟩; have HX := hidden hex; clear hex hx1 hy1)
          go_meet
          exact ⟨ex, x1, y1, rfl, HX.out.1, HX.out.2, ((Pair.set ⟨c0, c1, f0, f1⟩ x1 y1).alloc _).drewN d5, below_drewN (Below.alloc ((hb9.setCell (p := ⟨BM, 0, none⟩) lBM _).setCell (p := ⟨BM, 1, none⟩) lBM _) ((hb9.setCell (p := ⟨BM, 0, none⟩) lBM _).setCell (p := ⟨BM, 1, none⟩) lBM _).size _) _⟩
        case rest =>
          clear c0 c1 f0 f1 hVc hbV hb9
          obtain ⟨ex, x1, y1, rfl, hex0, hex1, ⟨c0, c1, f0, f1⟩, hb9⟩ := hcut
          go_upto_region 20 with fail
          go_cut [22, 23] (fun v1 v2 wx => ∃ b bt d, v1 = .float .f64 b ∧ v2 = .float .f64 bt ∧ wx = wc.drewN d ∧ Hid (∀ v, ldexpF one (-ex) = some v → b = v) ∧ Hid (Gives (hypF x1 y1) bt))
          case first => as_aux_lemma =>
            refine wp_region_noPanic ?_
            obtain ⟨S, hSdef⟩ : ∃ S : World → Prop, S = (fun w' : World => w'.cell? ⟨BM, 0, none⟩ = some (.float .f64 x1) ∧ w'.cell? ⟨BM, 1, none⟩ = some (.float .f64 y1)) := ⟨_, rfl⟩
            have hCalm : Calm S := by rw [hSdef]; exact fun _ _ h => h
            refine wp_region_D S (by as_aux_lemma => kernel_rfl) ?_
            have hHeld : S (wc.drewN 1) := by
              rw [hSdef]
              exact ⟨c0, c1⟩
            refine getV 0 (.int .i64 ex) rfl (some 133) (by as_aux_lemma => kernel_rfl) (by as_aux_lemma => kernel_rfl) (by as_aux_lemma => kernel_rfl) (by as_aux_lemma => kernel_rfl) (by as_aux_lemma => kernel_rfl) hCalm hHeld (fun w' hS => by rw [hSdef] at hS; obtain ⟨g1, g2⟩ := hS; go_simp) ?_
            simp only [Act.put, List.setIfInBounds_toArray, List.set_cons_zero, List.set_cons_succ]
            refine getV 1 (.int .i64 (-ex)) rfl (some 134) (by as_aux_lemma => kernel_rfl) (by as_aux_lemma => kernel_rfl) (by as_aux_lemma => kernel_rfl) (by as_aux_lemma => kernel_rfl) (by as_aux_lemma => kernel_rfl) hCalm hHeld (fun w' hS => by clear hS hHeld hCalm hSdef; go_simp; exact wrap_small _ (by omega) (by omega)) ?_
            simp only [Act.put, List.setIfInBounds_toArray, List.set_cons_zero, List.set_cons_succ]
            refine getV 3 (.pointer (some ⟨BM, 0, none⟩)) rfl (some 136) (by as_aux_lemma => kernel_rfl) (by as_aux_lemma => kernel_rfl) (by as_aux_lemma => kernel_rfl) (by as_aux_lemma => kernel_rfl) (by as_aux_lemma => kernel_rfl) hCalm hHeld (fun w' hS => by rw [hSdef] at hS; obtain ⟨g1, g2⟩ := hS; go_simp) ?_
            simp only [Act.put, List.setIfInBounds_toArray, List.set_cons_zero, List.set_cons_succ]
            refine getV 4 (.float .f64 x1) rfl (some 137) (by as_aux_lemma => kernel_rfl) (by as_aux_lemma => kernel_rfl) (by as_aux_lemma => kernel_rfl) (by as_aux_lemma => kernel_rfl) (by as_aux_lemma => kernel_rfl) hCalm hHeld (fun w' hS => by rw [hSdef] at hS; obtain ⟨g1, g2⟩ := hS; go_simp) ?_
            simp only [Act.put, List.setIfInBounds_toArray, List.set_cons_zero, List.set_cons_succ]
            refine getV 5 (.pointer (some ⟨BM, 1, none⟩)) rfl (some 138) (by as_aux_lemma => kernel_rfl) (by as_aux_lemma => kernel_rfl) (by as_aux_lemma => kernel_rfl) (by as_aux_lemma => kernel_rfl) (by as_aux_lemma => kernel_rfl) hCalm hHeld (fun w' hS => by rw [hSdef] at hS; obtain ⟨g1, g2⟩ := hS; go_simp) ?_
            simp only [Act.put, List.setIfInBounds_toArray, List.set_cons_zero, List.set_cons_succ]
            refine getV 6 (.float .f64 y1) rfl (some 139) (by as_aux_lemma => kernel_rfl) (by as_aux_lemma => kernel_rfl) (by as_aux_lemma => kernel_rfl) (by as_aux_lemma => kernel_rfl) (by as_aux_lemma => kernel_rfl) hCalm hHeld (fun w' hS => by rw [hSdef] at hS; obtain ⟨g1, g2⟩ := hS; go_simp) ?_
            simp only [Act.put, List.setIfInBounds_toArray, List.set_cons_zero, List.set_cons_succ]
            have hLd : ∀ W0, S W0 → ∀ d, Calls Yba.prog 22 #[.float .f64 one, .int .i64 (-ex)] (W0.drewN d) fun e w' => ∃ v, e = .returned v ∧ S w' ∧ ∃ b d, v = .float .f64 b ∧ w' = W0.drewN d ∧ Hid (∀ v, ldexpF one (-ex) = some v → b = v) := fun W0 hS0 d => by
              refine (Ldexp_any one (-ex) _ (by decide) (by omega)).mono ?_
              rintro e w' ⟨r, d', rfl, rfl, hr⟩
              exact ⟨_, rfl, hCalm _ _ (hCalm _ _ hS0), r, _, rfl, World.drewN_drewN _ _ _, hr.2⟩
            have hHy : ∀ W0, S W0 → ∀ d, Calls Yba.prog 23 #[.float .f64 x1, .float .f64 y1] (W0.drewN d) fun e w' => ∃ v, e = .returned v ∧ S w' ∧ ∃ b d, v = .float .f64 b ∧ w' = W0.drewN d ∧ Hid (Gives (hypF x1 y1) b) := fun W0 hS0 d => by
              refine (hypot_any x1 y1 _).mono ?_
              rintro e w' ⟨r, d', rfl, rfl, hr⟩
              exact ⟨_, rfl, hCalm _ _ (hCalm _ _ hS0), r, _, rfl, World.drewN_drewN _ _ _, hr⟩
            refine soleC 2 22 #[.float .f64 one, .int .i64 (-ex)] (fun v w' => ∃ b d, v = .float .f64 b ∧ w' = (wc.drewN 1).drewN d ∧ Hid (∀ v, ldexpF one (-ex) = some v → b = v)) rfl (some 135) (by as_aux_lemma => kernel_rfl) (by as_aux_lemma => kernel_rfl) (by as_aux_lemma => kernel_rfl) (fun d => by clear hLd hHy; go_simp) (hLd _ hHeld) ?_
            rintro _ _ hS1 ⟨b, d1, rfl, rfl, hb⟩
            simp only [Act.put, List.setIfInBounds_toArray, List.set_cons_zero, List.set_cons_succ]
            refine soleC 7 23 #[.float .f64 x1, .float .f64 y1] (fun v w' => ∃ b d, v = .float .f64 b ∧ w' = ((wc.drewN 1).drewN d1).drewN d ∧ Hid (Gives (hypF x1 y1) b)) rfl (some 140) (by as_aux_lemma => kernel_rfl) (by as_aux_lemma => kernel_rfl) (by as_aux_lemma => kernel_rfl) (fun d => by clear hLd hHy; go_simp) (hHy _ hS1) ?_
            rintro _ _ hS2 ⟨bt, d2, rfl, rfl, hbt⟩
            simp only [Act.put, List.setIfInBounds_toArray, List.set_cons_zero, List.set_cons_succ]
            refine soleV 8 (.float .f64 b) _ rfl (some 22) (by as_aux_lemma => kernel_rfl) (by as_aux_lemma => kernel_rfl) (by as_aux_lemma => kernel_rfl) hCalm hS2 (fun d => by clear hLd hHy; go_simp) ?_
            simp only [Act.put, List.setIfInBounds_toArray, List.set_cons_zero, List.set_cons_succ]
            refine soleV 9 (.float .f64 bt) _ rfl (some 23) (by as_aux_lemma => kernel_rfl) (by as_aux_lemma => kernel_rfl) (by as_aux_lemma => kernel_rfl) hCalm hS2 (fun d => by clear hLd hHy; go_simp) ?_
            simp only [Act.put, List.setIfInBounds_toArray, List.set_cons_zero, List.set_cons_succ]
            refine doneD (by as_aux_lemma => kernel_rfl) (fun d => ?_)
            clear hLd hHy hHeld hCalm hSdef hS1 hS2
            go_wp2
            go_meet
            exact ⟨b, bt, _, rfl, rfl, (by rw [World.drewN_drewN, World.drewN_drewN, World.drewN_drewN]), hb, hbt⟩
          case rest =>
            obtain ⟨b, bt, dd, rfl, rfl, hwc, hb, hbt⟩ := hcut
            have hb0 : (ord 0 b == some .lt || ord 0 b == some .eq) = true := by
              have h1 := bound_all ⟨(1100 + ex).toNat, by omega⟩
              have h2 : (1100 - (((1100 + ex).toNat : Nat) : Int)) = -ex := by omega
              simp only [h2] at h1
              cases h3 : ldexpF one (-ex) with
              | none => rw [h3] at h1; cases h1
              | some v => rw [h3] at h1; rw [hb.out v h3]; exact h1
            have hb9 : Below w.heap.size w wc := by rw [hwc]; exact below_drewN hb9 dd
            have c0 : wc.cell? ⟨BM, 0, none⟩ = some (.float .f64 x1) := by rw [hwc]; exact c0
            have c1 : wc.cell? ⟨BM, 1, none⟩ = some (.float .f64 y1) := by rw [hwc]; exact c1
            have lB : BM < wc.heap.size := World.block_lt_of_cell? wc _ c0
            clear hwc
            go_upto_region 21 with fail
            go_cut [24] (fun _ wx => Below w.heap.size w wx)
            case first => as_aux_lemma =>
              refine wp_region_noPanic ?_
              obtain ⟨S, hSdef⟩ : ∃ S : World → Prop, S = (fun w' : World => w'.cell? ⟨BM, 0, none⟩ = some (.float .f64 x1) ∧ w'.cell? ⟨BM, 1, none⟩ = some (.float .f64 y1)) := ⟨_, rfl⟩
              have hCalm : Calm S := by rw [hSdef]; exact fun _ _ h => h
              refine wp_region_D S (by as_aux_lemma => kernel_rfl) ?_
              have hStep : ∀ w', Below wc.heap.size wc w' → S w' := fun w' hb => by
                rw [hSdef]
                exact ⟨(hb.cell lB).trans c0, (hb.cell lB).trans c1⟩
              have hHeld : S (wc.drewN 1) := by
                rw [hSdef]
                exact ⟨c0, c1⟩
              refine getV 9 (.float .f64 r2) rfl (some 150) (by as_aux_lemma => kernel_rfl) (by as_aux_lemma => kernel_rfl) (by as_aux_lemma => kernel_rfl) (by as_aux_lemma => kernel_rfl) (by as_aux_lemma => kernel_rfl) hCalm hHeld (fun w' hS => by rw [hSdef] at hS; obtain ⟨g1, g2⟩ := hS; go_simp) ?_
              simp only [Act.put, List.setIfInBounds_toArray, List.set_cons_zero, List.set_cons_succ]
              refine getC 10 [] 24 #[.float .f64 r2] (fun v => ∃ rt, v = .float .f64 rt) rfl (some 151) (by as_aux_lemma => kernel_rfl) (by as_aux_lemma => kernel_rfl) (by as_aux_lemma => kernel_rfl) (by as_aux_lemma => kernel_rfl) (by as_aux_lemma => kernel_rfl) (by as_aux_lemma => kernel_rfl) (by as_aux_lemma => kernel_rfl) hCalm hHeld ⟨_, 0, rfl⟩ (fun w' hS => by go_simp) (fun w' hS => ?_) ?_
              · refine (sqrt_any r2 w').mono ?_
                rintro e w1 ⟨rt, d, rfl, hrt, rfl⟩
                exact ⟨_, d, ⟨rt, rfl⟩, rfl, rfl⟩
              rintro _ ⟨rt, rfl⟩
              simp only [Act.put, List.setIfInBounds_toArray, List.set_cons_zero, List.set_cons_succ]
              refine getV 0 (.pointer (some ⟨BM, 0, none⟩)) rfl (some 141) (by as_aux_lemma => kernel_rfl) (by as_aux_lemma => kernel_rfl) (by as_aux_lemma => kernel_rfl) (by as_aux_lemma => kernel_rfl) (by as_aux_lemma => kernel_rfl) hCalm hHeld (fun w' hS => by rw [hSdef] at hS; obtain ⟨g1, g2⟩ := hS; go_simp) ?_
              simp only [Act.put, List.setIfInBounds_toArray, List.set_cons_zero, List.set_cons_succ]
              refine getV 1 (.float .f64 x1) rfl (some 142) (by as_aux_lemma => kernel_rfl) (by as_aux_lemma => kernel_rfl) (by as_aux_lemma => kernel_rfl) (by as_aux_lemma => kernel_rfl) (by as_aux_lemma => kernel_rfl) hCalm hHeld (fun w' hS => by rw [hSdef] at hS; obtain ⟨g1, g2⟩ := hS; go_simp) ?_
              simp only [Act.put, List.setIfInBounds_toArray, List.set_cons_zero, List.set_cons_succ]
              refine getV 2 (.float .f64 bt) rfl (some 143) (by as_aux_lemma => kernel_rfl) (by as_aux_lemma => kernel_rfl) (by as_aux_lemma => kernel_rfl) (by as_aux_lemma => kernel_rfl) (by as_aux_lemma => kernel_rfl) hCalm hHeld (fun w' hS => by rw [hSdef] at hS; obtain ⟨g1, g2⟩ := hS; go_simp) ?_
              simp only [Act.put, List.setIfInBounds_toArray, List.set_cons_zero, List.set_cons_succ]
              refine getF 3 [] .quo 22 22 (.tmp 142) (.tmp 143) x1 bt rfl rfl (.inr (.inr (.inr rfl))) (some 144) (by as_aux_lemma => kernel_rfl) (by as_aux_lemma => kernel_rfl) (by as_aux_lemma => kernel_rfl) (by as_aux_lemma => kernel_rfl) (by as_aux_lemma => kernel_rfl) (by as_aux_lemma => kernel_rfl) (by as_aux_lemma => kernel_rfl) hCalm hHeld (by as_aux_lemma => kernel_rfl) (by as_aux_lemma => kernel_rfl) ?_
              intro e0 he0
              simp only [Act.put, List.setIfInBounds_toArray, List.set_cons_zero, List.set_cons_succ]
              refine getV 4 (.pointer (some ⟨BM, 1, none⟩)) rfl (some 145) (by as_aux_lemma => kernel_rfl) (by as_aux_lemma => kernel_rfl) (by as_aux_lemma => kernel_rfl) (by as_aux_lemma => kernel_rfl) (by as_aux_lemma => kernel_rfl) hCalm hHeld (fun w' hS => by rw [hSdef] at hS; obtain ⟨g1, g2⟩ := hS; go_simp) ?_
              simp only [Act.put, List.setIfInBounds_toArray, List.set_cons_zero, List.set_cons_succ]
              refine getV 5 (.float .f64 y1) rfl (some 146) (by as_aux_lemma => kernel_rfl) (by as_aux_lemma => kernel_rfl) (by as_aux_lemma => kernel_rfl) (by as_aux_lemma => kernel_rfl) (by as_aux_lemma => kernel_rfl) hCalm hHeld (fun w' hS => by rw [hSdef] at hS; obtain ⟨g1, g2⟩ := hS; go_simp) ?_
              simp only [Act.put, List.setIfInBounds_toArray, List.set_cons_zero, List.set_cons_succ]
              refine getV 6 (.float .f64 bt) rfl (some 147) (by as_aux_lemma => kernel_rfl) (by as_aux_lemma => kernel_rfl) (by as_aux_lemma => kernel_rfl) (by as_aux_lemma => kernel_rfl) (by as_aux_lemma => kernel_rfl) hCalm hHeld (fun w' hS => by rw [hSdef] at hS; obtain ⟨g1, g2⟩ := hS; go_simp) ?_
              simp only [Act.put, List.setIfInBounds_toArray, List.set_cons_zero, List.set_cons_succ]
              refine getF 7 [] .quo 22 22 (.tmp 146) (.tmp 147) y1 bt rfl rfl (.inr (.inr (.inr rfl))) (some 148) (by as_aux_lemma => kernel_rfl) (by as_aux_lemma => kernel_rfl) (by as_aux_lemma => kernel_rfl) (by as_aux_lemma => kernel_rfl) (by as_aux_lemma => kernel_rfl) (by as_aux_lemma => kernel_rfl) (by as_aux_lemma => kernel_rfl) hCalm hHeld (by as_aux_lemma => kernel_rfl) (by as_aux_lemma => kernel_rfl) ?_
              intro e1 he1
              simp only [Act.put, List.setIfInBounds_toArray, List.set_cons_zero, List.set_cons_succ]
              refine getV 8 (.agg #[.float .f64 e0, .float .f64 e1]) rfl (some 149) (by as_aux_lemma => kernel_rfl) (by as_aux_lemma => kernel_rfl) (by as_aux_lemma => kernel_rfl) (by as_aux_lemma => kernel_rfl) (by as_aux_lemma => kernel_rfl) hCalm hHeld (fun w' hS => by rw [hSdef] at hS; obtain ⟨g1, g2⟩ := hS; go_simp) ?_
              simp only [Act.put, List.setIfInBounds_toArray, List.set_cons_zero, List.set_cons_succ]
              refine soleV 11 (.pointer (some ⟨wc.heap.size, 0, none⟩)) ((wc.alloc (.cells #[.float .f64 0, .float .f64 0] 25)).drewN 1) rfl (some 24) (by as_aux_lemma => kernel_rfl) (by as_aux_lemma => kernel_rfl) (by as_aux_lemma => kernel_rfl) hCalm (hStep _ (below_drewN ((Below.refl _ _).alloc (Nat.le_refl _) _) 1)) (fun d => by clear hHeld hCalm hSdef hStep; go_simp) ?_
              simp only [Act.put, List.setIfInBounds_toArray, List.set_cons_zero, List.set_cons_succ]
              refine soleS 12 ((wc.alloc (.cells #[.float .f64 e0, .float .f64 e1] 25)).drewN 1) rfl none (by as_aux_lemma => kernel_rfl) (by as_aux_lemma => kernel_rfl) (by as_aux_lemma => kernel_rfl) hCalm (hStep _ (below_drewN ((Below.refl _ _).alloc (Nat.le_refl _) _) 1)) (fun d => by clear hHeld hCalm hSdef hStep; go_simp) ?_
              simp only [Act.put, List.setIfInBounds_toArray, List.set_cons_zero, List.set_cons_succ]
              refine soleV 13 (.float .f64 rt) ((wc.alloc (.cells #[.float .f64 e0, .float .f64 e1] 25)).drewN 1) rfl (some 25) (by as_aux_lemma => kernel_rfl) (by as_aux_lemma => kernel_rfl) (by as_aux_lemma => kernel_rfl) hCalm (hStep _ (below_drewN ((Below.refl _ _).alloc (Nat.le_refl _) _) 1)) (fun d => by clear hHeld hCalm hSdef hStep; go_simp) ?_
              simp only [Act.put, List.setIfInBounds_toArray, List.set_cons_zero, List.set_cons_succ]
              refine doneD (by as_aux_lemma => kernel_rfl) (fun d => ?_)
              clear hHeld hCalm hSdef hStep
              go_wp2
              go_meet
              exact below_drewN (below_drewN (hb9.alloc hb9.size _) 1) d
            case rest =>
              clear hb9
              go_upto_region 24 with fail
              refine wp_loop_rounds 1 ?_
              rw [rounds_succ]
              go_wp2_with (go_at_call 25; refine (meet_two (wc.heap.size + 1 + 1) wc.heap.size (wc.heap.size + 1) (wc.heap.size + 1 + 1 + 1) b _ (by go_simp; done) (by go_simp; done) (by go_simp; done) (by go_simp; done) (by go_simp; done) (by go_simp; done) (by go_simp; done) (by go_simp; done) (by go_simp; done) hb0).mono ?_; rintro e w9 ⟨rfl, hb10⟩)
              go_ret
              have h4 := (below3 wc (.cells #[.float .f64 4607182418800017408] 22) (.cells #[.float .f64 13830554455654793216] 22) (.cells #[.slice (some ⟨wc.heap.size, 0, none⟩) 1 1, .float .f64 b, .float .f64 b, .slice (some ⟨wc.heap.size + 1, 0, none⟩) 1 1, .float .f64 b, .float .f64 b] 105)).alloc (by simp; omega) (.cells #[.float .f64 0] 22)
              exact ⟨rfl, hcut.trans ((h4.trans (hb10.mono h4.size)).mono hcut.size)⟩

end Go.Proofs.Ybulkavii.A
