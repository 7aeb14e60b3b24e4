/-
  Seat b2335a, laws A: the walk of LawS2335ASeparated (function 5).
-/
import Derived.Test.YbulkaviiOneB
namespace Go.Proofs.Ybulkavii.A
open Go Go.RowKit

/-- The integers 1 .. 7 as floats, and their eighths, and the halves of these. -/
theorem flt_all : ∀ k : Fin 7, floatOfInt .f64 ((k.val : Int) + 1) = [4607182418800017408, 4611686018427387904, 4613937818241073152, 4616189618054758400, 4617315517961601024, 4618441417868443648, 4619567317775286272].getD k.val 0 := by decide +kernel
theorem quo_all : ∀ k : Fin 7, floatBits .quo .f64 ([4607182418800017408, 4611686018427387904, 4613937818241073152, 4616189618054758400, 4617315517961601024, 4618441417868443648, 4619567317775286272].getD k.val 0) 4620693217682128896 = some (sT k.val) := by decide +kernel
theorem half_all : ∀ k : Fin 7, floatBits .quo .f64 (sT k.val) 4611686018427387904 = some (hT k.val false) := by decide +kernel

theorem below_4 (w : World) (o p q r : Obj) : Below w.heap.size w ((((w.alloc o).alloc p).alloc q).alloc r) := ((((Below.refl _ _).alloc (Nat.le_refl _) _).alloc (by simp) _).alloc (by simp; omega) _).alloc (by simp; omega) _

set_option maxRecDepth 100000 in
set_option maxHeartbeats 2000000 in
theorem separated_at (k dir : Int) (j : Fin 7) (t : Fin 4) (far : Bool) (w : World) (hk : Int.tmod k 7 = (j.val : Int)) (hd : Int.tmod dir 4 = (t.val : Int)) (hk0 : 0 ≤ k) (hk1 : k ≤ 255) (hd0 : 0 ≤ dir) (hd1 : dir ≤ 255) :
    Calls Yba.prog 5 #[.int .u8 k, .int .u8 dir, .bool far] w fun e w' => e = .returned (.bool true) ∧ Below w.heap.size w w' := by
  have HS := hidden (sep_all j t far)
  have hng := run_ng
  have hfl := flt_all j
  have hq : ∀ w, (binOp .quo 22 (.float .f64 ([4607182418800017408, 4611686018427387904, 4613937818241073152, 4616189618054758400, 4617315517961601024, 4618441417868443648, 4619567317775286272].getD j.val 0)) (.float .f64 4620693217682128896)).run Yba.prog w = .ok (.float .f64 (sT j.val)) w := fun w => run_float_arith w .quo 22 .f64 _ _ _ (quo_all j)
  have hh : ∀ w, (binOp .quo 22 (.float .f64 (sT j.val)) (.float .f64 4611686018427387904)).run Yba.prog w = .ok (.float .f64 (hT j.val false)) w := fun w => run_float_arith w .quo 22 .f64 _ _ _ (half_all j)
  have HX : Hid (∀ (t : Fin 4) (far : Bool), sepOK (pX j t) (pY j t) (oX j t far) (oY j t far) far = true) := sep_all j
  obtain ⟨L, hL⟩ : ∃ L, L = [4607182418800017408, 4611686018427387904, 4613937818241073152, 4616189618054758400, 4617315517961601024, 4618441417868443648, 4619567317775286272].getD j.val 0 := ⟨_, rfl⟩
  rw [← hL] at hfl
  rw [← hL] at hq
  clear hL
  have K0 : Hid (sepOK (sT j.val) 0 (hT j.val false) 0 false = true) := HX.out 0 false
  have K1 : Hid (sepOK 0 (sT j.val) 0 (hT j.val false) false = true) := HX.out 1 false
  have K2 : Hid (sepOK (ng (sT j.val)) 0 (ng (hT j.val false)) 0 false = true) := HX.out 2 false
  have K3 : Hid (sepOK 0 (ng (sT j.val)) 0 (ng (hT j.val false)) false = true) := HX.out 3 false
  have F0 : Hid (sepOK (sT j.val) 0 (ng (hT j.val false)) 0 true = true) := HX.out 0 true
  have F1 : Hid (sepOK 0 (sT j.val) 0 (ng (hT j.val false)) true = true) := HX.out 1 true
  have F2 : Hid (sepOK (ng (sT j.val)) 0 (ng (ng (hT j.val false))) 0 true = true) := HX.out 2 true
  have F3 : Hid (sepOK 0 (ng (sT j.val)) 0 (ng (ng (hT j.val false))) true = true) := HX.out 3 true
  clear HX HS
  obtain ⟨s, hs⟩ : ∃ s, s = sT j.val := ⟨_, rfl⟩
  obtain ⟨h, hh0⟩ : ∃ h, h = hT j.val false := ⟨_, rfl⟩
  rw [← hs] at hq hh K0 K1 K2 K3 F0 F1 F2 F3
  rw [← hh0] at hh K0 K1 K2 K3 F0 F1 F2 F3
  obtain ⟨m, hm⟩ : ∃ m : Int, m = (j.val : Int) := ⟨_, rfl⟩
  rw [← hm] at hk hfl
  have hm0 : 0 ≤ m := by omega
  have hm1 : m < 7 := by omega
  clear hm hs hh0
  have ht : t = 0 ∨ t = 1 ∨ t = 2 ∨ t = 3 := by omega
  cases far
  · rcases ht with rfl | rfl | rfl | rfl
    · replace hd : Int.tmod dir 4 = 0 := hd.trans (by decide)
      go_enter Yba.func5, Yba.ntmps5
      go_wp2_with (go_at_call 9; refine (borders_sep w.heap.size (w.heap.size + 1 + 1) (w.heap.size + 1) (w.heap.size + 1 + 1 + 1) _ _ _ _ false _ K0.out (by go_simp; done) (by go_simp; done) (by go_simp; done) (by go_simp; done) (by go_simp; done) (by go_simp; done) (by go_simp; done)).mono ?_; rintro e w1 ⟨rfl, hb⟩)
      go_ret
      have h4 := below_4 w (.cells #[.float .f64 s, .float .f64 0] 22) (.cells #[.float .f64 h, .float .f64 0] 22) (.cells #[.float .f64 0, .float .f64 0] 22) (.cells #[.slice (some ⟨w.heap.size + 1, 0, none⟩) 2 2] 26)
      exact ⟨rfl, h4.trans (hb.mono h4.size)⟩
    · replace hd : Int.tmod dir 4 = 1 := hd.trans (by decide)
      go_enter Yba.func5, Yba.ntmps5
      go_wp2_with (go_at_call 9; refine (borders_sep w.heap.size (w.heap.size + 1 + 1) (w.heap.size + 1) (w.heap.size + 1 + 1 + 1) _ _ _ _ false _ K1.out (by go_simp; done) (by go_simp; done) (by go_simp; done) (by go_simp; done) (by go_simp; done) (by go_simp; done) (by go_simp; done)).mono ?_; rintro e w1 ⟨rfl, hb⟩)
      go_ret
      have h4 := below_4 w (.cells #[.float .f64 0, .float .f64 s] 22) (.cells #[.float .f64 0, .float .f64 h] 22) (.cells #[.float .f64 0, .float .f64 0] 22) (.cells #[.slice (some ⟨w.heap.size + 1, 0, none⟩) 2 2] 26)
      exact ⟨rfl, h4.trans (hb.mono h4.size)⟩
    · replace hd : Int.tmod dir 4 = 2 := hd.trans (by decide)
      go_enter Yba.func5, Yba.ntmps5
      go_wp2_with (go_at_call 9; refine (borders_sep w.heap.size (w.heap.size + 1 + 1) (w.heap.size + 1) (w.heap.size + 1 + 1 + 1) _ _ _ _ false _ K2.out (by go_simp; done) (by go_simp; done) (by go_simp; done) (by go_simp; done) (by go_simp; done) (by go_simp; done) (by go_simp; done)).mono ?_; rintro e w1 ⟨rfl, hb⟩)
      go_ret
      have h4 := below_4 w (.cells #[.float .f64 (ng s), .float .f64 0] 22) (.cells #[.float .f64 (ng h), .float .f64 0] 22) (.cells #[.float .f64 0, .float .f64 0] 22) (.cells #[.slice (some ⟨w.heap.size + 1, 0, none⟩) 2 2] 26)
      exact ⟨rfl, h4.trans (hb.mono h4.size)⟩
    · replace hd : Int.tmod dir 4 = 3 := hd.trans (by decide)
      go_enter Yba.func5, Yba.ntmps5
      go_wp2_with (go_at_call 9; refine (borders_sep w.heap.size (w.heap.size + 1 + 1) (w.heap.size + 1) (w.heap.size + 1 + 1 + 1) _ _ _ _ false _ K3.out (by go_simp; done) (by go_simp; done) (by go_simp; done) (by go_simp; done) (by go_simp; done) (by go_simp; done) (by go_simp; done)).mono ?_; rintro e w1 ⟨rfl, hb⟩)
      go_ret
      have h4 := below_4 w (.cells #[.float .f64 0, .float .f64 (ng s)] 22) (.cells #[.float .f64 0, .float .f64 (ng h)] 22) (.cells #[.float .f64 0, .float .f64 0] 22) (.cells #[.slice (some ⟨w.heap.size + 1, 0, none⟩) 2 2] 26)
      exact ⟨rfl, h4.trans (hb.mono h4.size)⟩
  · rcases ht with rfl | rfl | rfl | rfl
    · replace hd : Int.tmod dir 4 = 0 := hd.trans (by decide)
      go_enter Yba.func5, Yba.ntmps5
      go_wp2_with (go_at_call 9; refine (borders_sep w.heap.size (w.heap.size + 1 + 1) (w.heap.size + 1) (w.heap.size + 1 + 1 + 1) _ _ _ _ true _ F0.out (by go_simp; done) (by go_simp; done) (by go_simp; done) (by go_simp; done) (by go_simp; done) (by go_simp; done) (by go_simp; done)).mono ?_; rintro e w1 ⟨rfl, hb⟩)
      go_ret
      have h4 := below_4 w (.cells #[.float .f64 s, .float .f64 0] 22) (.cells #[.float .f64 (ng h), .float .f64 0] 22) (.cells #[.float .f64 0, .float .f64 0] 22) (.cells #[.slice (some ⟨w.heap.size + 1, 0, none⟩) 2 2] 26)
      exact ⟨rfl, h4.trans (hb.mono h4.size)⟩
    · replace hd : Int.tmod dir 4 = 1 := hd.trans (by decide)
      go_enter Yba.func5, Yba.ntmps5
      go_wp2_with (go_at_call 9; refine (borders_sep w.heap.size (w.heap.size + 1 + 1) (w.heap.size + 1) (w.heap.size + 1 + 1 + 1) _ _ _ _ true _ F1.out (by go_simp; done) (by go_simp; done) (by go_simp; done) (by go_simp; done) (by go_simp; done) (by go_simp; done) (by go_simp; done)).mono ?_; rintro e w1 ⟨rfl, hb⟩)
      go_ret
      have h4 := below_4 w (.cells #[.float .f64 0, .float .f64 s] 22) (.cells #[.float .f64 0, .float .f64 (ng h)] 22) (.cells #[.float .f64 0, .float .f64 0] 22) (.cells #[.slice (some ⟨w.heap.size + 1, 0, none⟩) 2 2] 26)
      exact ⟨rfl, h4.trans (hb.mono h4.size)⟩
    · replace hd : Int.tmod dir 4 = 2 := hd.trans (by decide)
      go_enter Yba.func5, Yba.ntmps5
      go_wp2_with (go_at_call 9; refine (borders_sep w.heap.size (w.heap.size + 1 + 1) (w.heap.size + 1) (w.heap.size + 1 + 1 + 1) _ _ _ _ true _ F2.out (by go_simp; done) (by go_simp; done) (by go_simp; done) (by go_simp; done) (by go_simp; done) (by go_simp; done) (by go_simp; done)).mono ?_; rintro e w1 ⟨rfl, hb⟩)
      go_ret
      have h4 := below_4 w (.cells #[.float .f64 (ng s), .float .f64 0] 22) (.cells #[.float .f64 (ng (ng h)), .float .f64 0] 22) (.cells #[.float .f64 0, .float .f64 0] 22) (.cells #[.slice (some ⟨w.heap.size + 1, 0, none⟩) 2 2] 26)
      exact ⟨rfl, h4.trans (hb.mono h4.size)⟩
    · replace hd : Int.tmod dir 4 = 3 := hd.trans (by decide)
      go_enter Yba.func5, Yba.ntmps5
      go_wp2_with (go_at_call 9; refine (borders_sep w.heap.size (w.heap.size + 1 + 1) (w.heap.size + 1) (w.heap.size + 1 + 1 + 1) _ _ _ _ true _ F3.out (by go_simp; done) (by go_simp; done) (by go_simp; done) (by go_simp; done) (by go_simp; done) (by go_simp; done) (by go_simp; done)).mono ?_; rintro e w1 ⟨rfl, hb⟩)
      go_ret
      have h4 := below_4 w (.cells #[.float .f64 0, .float .f64 (ng s)] 22) (.cells #[.float .f64 0, .float .f64 (ng (ng h))] 22) (.cells #[.float .f64 0, .float .f64 0] 22) (.cells #[.slice (some ⟨w.heap.size + 1, 0, none⟩) 2 2] 26)
      exact ⟨rfl, h4.trans (hb.mono h4.size)⟩

theorem separated_walk (k dir : Int) (far : Bool) (w : World) (hk0 : 0 ≤ k) (hk1 : k ≤ 255) (hd0 : 0 ≤ dir) (hd1 : dir ≤ 255) :
    Calls Yba.prog 5 #[.int .u8 k, .int .u8 dir, .bool far] w fun e w' => e = .returned (.bool true) ∧ Below w.heap.size w w' := by
  have e1 : Int.tmod k 7 = k % 7 := Int.tmod_eq_emod_of_nonneg hk0
  have e2 : Int.tmod dir 4 = dir % 4 := Int.tmod_eq_emod_of_nonneg hd0
  exact separated_at k dir ⟨(k % 7).toNat, by omega⟩ ⟨(dir % 4).toNat, by omega⟩ far w (by rw [e1]; simp only; omega) (by rw [e2]; simp only; omega) hk0 hk1 hd0 hd1

end Go.Proofs.Ybulkavii.A
