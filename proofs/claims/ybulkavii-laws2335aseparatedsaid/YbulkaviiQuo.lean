/-
  Seat b2335a, laws A: quo (function 20).
-/
import Derived.Test.YbulkaviiGap
namespace Go.Proofs.Ybulkavii.A
open Go Go.RowKit

/-- (x0 + x1 i) / (y0 + y1 i). -/
def quoF (x0 x1 y0 y1 : Nat) : Option (Nat × Nat) :=
  (floatBits .mul .f64 y0 y0).bind fun a =>
  (floatBits .mul .f64 y1 y1).bind fun b =>
  (floatBits .add .f64 a b).bind fun n =>
  (floatBits .mul .f64 x0 y0).bind fun c =>
  (floatBits .mul .f64 x1 y1).bind fun d =>
  (floatBits .add .f64 c d).bind fun e =>
  (floatBits .quo .f64 e n).bind fun f =>
  (floatBits .mul .f64 x1 y0).bind fun g =>
  (floatBits .mul .f64 x0 y1).bind fun h =>
  (floatBits .sub .f64 g h).bind fun k =>
  (floatBits .quo .f64 k n).bind fun l => some (f, l)

theorem quoF_some {x0 x1 y0 y1 : Nat} {v : Nat × Nat} (h : quoF x0 x1 y0 y1 = some v) : ∃ a, floatBits .mul .f64 y0 y0 = some a ∧ ∃ b, floatBits .mul .f64 y1 y1 = some b ∧ ∃ n, floatBits .add .f64 a b = some n ∧
    ∃ c, floatBits .mul .f64 x0 y0 = some c ∧ ∃ d, floatBits .mul .f64 x1 y1 = some d ∧ ∃ e, floatBits .add .f64 c d = some e ∧ ∃ f, floatBits .quo .f64 e n = some f ∧
    ∃ g, floatBits .mul .f64 x1 y0 = some g ∧ ∃ h, floatBits .mul .f64 x0 y1 = some h ∧ ∃ k, floatBits .sub .f64 g h = some k ∧ ∃ l, floatBits .quo .f64 k n = some l ∧ (f, l) = v := by
  unfold quoF at h
  simpa only [Option.bind_eq_some_iff, Option.some.injEq] using h

set_option maxRecDepth 100000 in
set_option maxHeartbeats 2000000 in
theorem quo_any (x0 x1 y0 y1 : Nat) (w : World) :
    Calls Yba.prog 20 #[.agg #[.float .f64 x0, .float .f64 x1], .agg #[.float .f64 y0, .float .f64 y1]] w fun e w' => ∃ r0 r1, e = .returned (.agg #[.float .f64 r0, .float .f64 r1]) ∧ r0 < 2 ^ 64 ∧ r1 < 2 ^ 64 ∧ Below w.heap.size w w' ∧ ∀ v, quoF x0 x1 y0 y1 = some v → v = (r0, r1) := by
  have had := alloc_drewN
  have hsd := setCell_drewN
  go_enter Yba.func20, Yba.ntmps20
  go_wp2_with (first
    | (refine wpList_float _ rfl .add _ _ _ _ rfl (.inl rfl) _ _ rfl rfl ?_; intro r d hr)
    | (refine wpList_float _ rfl .sub _ _ _ _ rfl (.inr (.inl rfl)) _ _ rfl rfl ?_; intro r d hr)
    | (refine wpList_float _ rfl .mul _ _ _ _ rfl (.inr (.inr (.inl rfl))) _ _ rfl rfl ?_; intro r d hr)
    | (refine wpList_float _ rfl .quo _ _ _ _ rfl (.inr (.inr (.inr rfl))) _ _ rfl rfl ?_; intro r d hr))
  rename_i a d1 ha b d2 hb n d3 hn c d4 hc e d5 he u d6 hu f d7 hf g d8 hg h d9 hh k d10 hk
  refine bodyPost_ret (v := .agg #[.float .f64 f, .float .f64 r]) (by simp [results, Yba.results20, go_sem]) rfl ⟨f, r, rfl, hf.out.1, hr.out.1, ?_, fun v hv => ?_⟩
  · exact below_drewN ((((Below.refl _ _).alloc (Nat.le_refl _) _).alloc (by simp) _).alloc (by simp; omega) _) _
  · obtain ⟨a', e1, b', e2, n', e3, c', e4, d', e5, u', e6, f', e7, g', e8, h', e9, k', e10, l', e11, rfl⟩ := quoF_some hv
    obtain rfl := ha.out.2 _ e1
    obtain rfl := hb.out.2 _ e2
    obtain rfl := hn.out.2 _ e3
    obtain rfl := hc.out.2 _ e4
    obtain rfl := he.out.2 _ e5
    obtain rfl := hu.out.2 _ e6
    obtain rfl := hf.out.2 _ e7
    obtain rfl := hg.out.2 _ e8
    obtain rfl := hh.out.2 _ e9
    obtain rfl := hk.out.2 _ e10
    obtain rfl := hr.out.2 _ e11
    rfl

end Go.Proofs.Ybulkavii.A
