/-
  Seat b2335a: small laws on ranges of cells, on arrays of bytes laid into a slice of arrays.
-/
import Derived.Test.YbulkaviiChoose
import Derived.Deep.WholeRow
namespace Go.Proofs.Ybulkavii
open Go.RowKit
set_option linter.unusedSimpArgs false
namespace Rng
theorem info36 : (Yba.prog.info? 36).map (fun i => (i.zero, i.size, i.bytes)) = some (some (.agg (bcells (List.replicate 20 0))), 20, 20) := by kernel_rfl
theorem size33 : (Yba.prog.info? 33).map (·.size) = some 20 := by kernel_rfl
theorem lenMap33 (a : List Int) (h : a.length = 20) : (Yba.prog.info? 33).map (·.size) = some (a.map (Value.int .u8)).length := by
  rw [size33]; simp [h]
theorem bcells_one (a : List Int) : (bcells a).all (·.oneCell') = true := by
  refine all_oneCell_toArray (fun v hv => ?_)
  simp at hv
  obtain ⟨x, _, rfl⟩ := hv
  rfl
theorem bcells_size36 (a : List Int) (h : a.length = 20) : (Yba.prog.info? 36).map (·.size) = some (bcells a).size := by
  rw [Yba.size36]; simp [h]
theorem there_sub {w : World} {b n : Nat} (h : w.there b 0 n) (o m : Nat) (hm : o + m ≤ n) : w.there b o m := fun j hj => by
  have := h (o + j) (by omega)
  rwa [Nat.zero_add] at this
theorem below_setCells {B : Nat} (b : Nat) : ∀ (vs : List Value) (o : Nat) (w : World), B ≤ b → Below B w (w.setCells b o vs)
  | [], _, _, _ => Below.refl _ _
  | v :: r, o, w, h => by
    rw [World.setCells]
    exact ((Below.refl _ _).setCell (p := ⟨b, o, none⟩) h v).trans (below_setCells b r (o + 1) _ h)
theorem size_setCells (b : Nat) : ∀ (vs : List Value) (o : Nat) (w : World), (w.setCells b o vs).heap.size = w.heap.size
  | [], _, _ => rfl
  | v :: r, o, w => by rw [World.setCells, size_setCells b r, size_setCell]
theorem owns_there {w : World} {base g : Nat} {e : TypeId} {size n cap : Nat} {xs : List Value} (h : w.ownsRow base e size (.slice (some ⟨g, 0, none⟩) n cap) n xs) : w.there g 0 (n * size) := fun j hj => by
  rcases h.2 with ⟨h0, _⟩ | ⟨g', cap', cur, hv, _, hg, hn, _, hs, _⟩
  · cases h0
  · injection hv with h1 _ h2
    injection h1 with h1
    injection h1 with h1 _ _
    subst h1 h2
    have hj' : j < cur.size := by rw [hs]; exact Nat.lt_of_lt_of_le hj (Nat.mul_le_mul_right _ hn)
    rw [Nat.zero_add]
    exact ⟨by rw [cell_of_row _ _ _ _ _ _ hg]; simp [hj'], frozen_of_row _ _ _ _ _ hg⟩
end Rng
end Go.Proofs.Ybulkavii
