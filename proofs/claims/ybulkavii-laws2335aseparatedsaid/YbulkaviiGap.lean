/-
  Seat b2335a, laws A: rimGap (function 18).
-/
import Derived.Test.YbulkaviiFl
namespace Go.Proofs.Ybulkavii.A
open Go Go.RowKit

abbrev one : Nat := 4607182418800017408

/-- One round of rimGap. -/
def gapStep (gap lost x : Nat) : Option (Nat × Nat) :=
  (floatBits .mul .f64 x x).bind fun sq =>
  (fma x x (ng sq)).bind fun e =>
  (floatBits .sub .f64 gap sq).bind fun next =>
  (floatBits .sub .f64 next gap).bind fun back =>
  (floatBits .sub .f64 next back).bind fun t1 =>
  (floatBits .sub .f64 gap t1).bind fun t2 =>
  (floatBits .sub .f64 (ng sq) back).bind fun t3 =>
  (floatBits .add .f64 t2 t3).bind fun t4 =>
  (floatBits .sub .f64 t4 e).bind fun t5 =>
  (floatBits .add .f64 lost t5).bind fun l => some (next, l)

theorem gapStep_some {gap lost x : Nat} {v : Nat × Nat} (h : gapStep gap lost x = some v) : ∃ sq, floatBits .mul .f64 x x = some sq ∧ ∃ e, fma x x (ng sq) = some e ∧ ∃ next, floatBits .sub .f64 gap sq = some next ∧ ∃ back, floatBits .sub .f64 next gap = some back ∧
    ∃ t1, floatBits .sub .f64 next back = some t1 ∧ ∃ t2, floatBits .sub .f64 gap t1 = some t2 ∧ ∃ t3, floatBits .sub .f64 (ng sq) back = some t3 ∧ ∃ t4, floatBits .add .f64 t2 t3 = some t4 ∧ ∃ t5, floatBits .sub .f64 t4 e = some t5 ∧ ∃ l, floatBits .add .f64 lost t5 = some l ∧ (next, l) = v := by
  unfold gapStep at h
  simpa only [Option.bind_eq_some_iff, Option.some.injEq] using h

def gapIter (x y : Nat) : Nat → Option (Nat × Nat)
  | 0 => some (one, 0)
  | 1 => gapStep one 0 x
  | _ => (gapStep one 0 x).bind fun p => gapStep p.1 p.2 y

def gapF (x y : Nat) : Option Nat := (gapIter x y 2).bind fun p => floatBits .add .f64 p.1 p.2

set_option maxRecDepth 100000 in
set_option maxHeartbeats 1000000 in
theorem rimGap_any (pb po cap x y : Nat) (w : World) (hx : w.cell? ⟨pb, po, none⟩ = some (.float .f64 x)) (hy : w.cell? ⟨pb, po + 1, none⟩ = some (.float .f64 y)) :
    Calls Yba.prog 18 #[.slice (some ⟨pb, po, none⟩) 2 cap] w fun e w' => ∃ r d, e = .returned (.float .f64 r) ∧ r < 2 ^ 64 ∧ w' = w.drewN d ∧ ∀ v, gapF x y = some v → r = v := by
  have hadd := fun x y w => run_fop .add (.inl rfl) 22 x y w
  have hsub := fun x y w => run_fop .sub (.inr (.inl rfl)) 22 x y w
  have hmul := fun x y w => run_fop .mul (.inr (.inr (.inl rfl))) 22 x y w
  have hfma := run_fma
  have hng := run_ng
  go_enter Yba.func18, Yba.ntmps18
  go_wp2
  go_loopw [3, 4, 13] (fun g l i wr => ∃ (k : Nat) (gap lost d : Nat), k ≤ 2 ∧ g = .float .f64 gap ∧ l = .float .f64 lost ∧ i = .int .i64 k ∧ wr = w.drewN d ∧ Hid (∀ v, gapIter x y k = some v → v = (gap, lost))) (fun _ _ i _ => 2 - (intOf i).toNat)
  case atStart => exact ⟨0, one, 0, 0, by omega, rfl, rfl, rfl, rfl, fun v h => by injection h with h; exact h.symm⟩
  case round =>
    obtain ⟨k, gap, lost, d, hk, rfl, rfl, rfl, rfl, HG⟩ := hrel
    rcases (show k = 0 ∨ k = 1 ∨ k = 2 by omega) with rfl | rfl | rfl
    · go_wp2
      refine ⟨⟨1, _, _, _, by omega, rfl, rfl, by go_num, rfl, fun v hv => ?_⟩, by simp [intOf]⟩
      have h0 := HG.out (one, 0) rfl
      injection h0 with h0 h0'
      subst h0 h0'
      obtain ⟨sq, h1, e, h2, next, h3, back, h4, t1, h5, t2, h6, t3, h7, t4, h8, t5, h9, l, h10, rfl⟩ := gapStep_some hv
      simp only [h1, fqs, h2, h3, h4, h5, h6, h7, h8, h9, h10]
    · go_wp2
      refine ⟨⟨2, _, _, _, by omega, rfl, rfl, by go_num, rfl, fun v hv => ?_⟩, by simp [intOf]⟩
      obtain ⟨p, hp1, hp2⟩ := Option.bind_eq_some_iff.1 hv
      have h0 := HG.out p hp1
      subst h0
      obtain ⟨sq, h1, e, h2, next, h3, back, h4, t1, h5, t2, h6, t3, h7, t4, h8, t5, h9, l, h10, rfl⟩ := gapStep_some hp2
      simp only at h3 h4 h5 h6 h7 h8 h9 h10
      simp only [h1, fqs, h2, h3, h4, h5, h6, h7, h8, h9, h10]
    · go_wp2
      go_ret
      refine ⟨_, _, rfl, fop_lt _ _ _ _ _ _, rfl, fun v hv => ?_⟩
      obtain ⟨p, h1, h2⟩ := Option.bind_eq_some_iff.1 hv
      have := HG.out p h1
      subst this
      exact fq_some h2 _ _ _

end Go.Proofs.Ybulkavii.A
