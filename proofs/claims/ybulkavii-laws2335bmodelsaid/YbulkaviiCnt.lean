/-
  Seat b2335a, laws B: what the law's own counting loop keeps from round to round.
-/
import Derived.Test.YbulkaviiChoose
namespace Go.Proofs.Ybulkavii
open Go.RowKit
set_option linter.unusedSimpArgs false

structure CntInv (W wr : World) (L : Int) (bs : Nat → Int) (k : Nat) (v : Value) : Prop where
  own : wr.ownsRow (W.heap.size + 1) 3 1 v (pick L bs k).2.length ((pick L bs k).2.map (Value.int .i64))
  cnt : wr.heap[W.heap.size]? = some (.cells (icells (pick L bs k).1) 41 (0, 0))
  below : Below W.heap.size W wr
  size : W.heap.size + 1 ≤ wr.heap.size

theorem CntInv.start (W : World) (L : Int) (bs : Nat → Int) : CntInv W ((W.alloc (.cells Yba.zeroCells41 41)).alloc (.cells #[] 3)) L bs 0 (.slice (some ⟨W.heap.size + 1, 0, none⟩) 0 0) := by
  refine ⟨?_, ?_, below2 _ _ _, by simp⟩
  · have h := World.ownsRow_made (base := W.heap.size + 1) (e := 3) (size := 1) (W.alloc (.cells Yba.zeroCells41 41)) #[] 0 (by simp) (by unfold maxLen; omega) (by simp)
    rw [size_alloc] at h
    exact h
  · rw [heap_alloc2_old, zero160]; rfl

theorem CntInv.cell {W wr : World} {L : Int} {bs : Nat → Int} {k : Nat} {v : Value} (h : CntInv W wr L bs k v) (j : Nat) (hj : j < 160) : wr.cell? ⟨W.heap.size, j, none⟩ = some (.int .i64 ((pick L bs k).1.getD j 0)) := by
  rw [cell_of_row _ _ _ _ _ _ h.cnt, icells_get _ _ (by rw [pick_len]; exact hj)]
theorem CntInv.frozen {W wr : World} {L : Int} {bs : Nat → Int} {k : Nat} {v : Value} (h : CntInv W wr L bs k v) (j : Nat) : wr.frozen? ⟨W.heap.size, j, none⟩ = false := frozen_of_row _ _ _ _ _ h.cnt

theorem CntInv.no {W wr : World} {L : Int} {bs : Nat → Int} {k : Nat} {v : Value} (h : CntInv W wr L bs k v) (hn : ¬ (0 ≤ bs k ∧ (pick L bs k).1.getD (bs k).toNat 0 < L)) : CntInv W wr L bs (k + 1) v :=
  ⟨by rw [pick_no hn]; exact h.own, by rw [pick_no hn]; exact h.cnt, h.below, h.size⟩

/-- The row behind the store of the counter. -/
theorem CntInv.own2 {W wr : World} {L : Int} {bs : Nat → Int} {k : Nat} {v : Value} (h : CntInv W wr L bs k v) (j : Nat) (u : Value) : (wr.setCell ⟨W.heap.size, j, none⟩ u).ownsRow (W.heap.size + 1) 3 1 v (pick L bs k).2.length ((pick L bs k).2.map (Value.int .i64)) :=
  ownsRow_setCell_below h.own (a := ⟨W.heap.size, j, none⟩) (Nat.lt_succ_self _) u

theorem CntInv.yes {W wr w3 : World} {L : Int} {bs : Nat → Int} {k : Nat} {v v' : Value} {o : Obj} {c q : Int} (h : CntInv W wr L bs k v) (hq : q = bs k) (hc : c = (pick L bs k).1.getD q.toNat 0) (h0 : 0 ≤ q) (h1 : c < L)
    (hown : w3.ownsRow (W.heap.size + 1) 3 1 v' ((pick L bs k).2.length + 1) ((pick L bs k).2.map (Value.int .i64) ++ [.int .i64 k]))
    (hg : ((wr.setCell ⟨W.heap.size, q.toNat, none⟩ (.int .i64 (c + 1))).alloc o).grownBy w3 v.ownBlock) : CntInv W w3 L bs (k + 1) v' := by
  subst hq hc
  have hP := pick_yes h0 h1
  have hB := below_grown hg (h.own2 _ _) (by rw [size_setCell]; exact h.size)
  refine ⟨?_, ?_, (h.below.setCell (p := ⟨W.heap.size, _, none⟩) (Nat.le_refl _) _).trans (hB.mono (by omega)), ?_⟩
  · rw [hP.2]; simpa using hown
  · rw [hB.block _ (by omega), hP.1]; exact cnt_set h.cnt _ _
  · have := hB.size; rw [size_setCell] at this; have := h.size; omega

end Go.Proofs.Ybulkavii
