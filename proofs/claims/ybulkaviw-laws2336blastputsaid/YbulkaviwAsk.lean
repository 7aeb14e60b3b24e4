/-
  Seat b2336a, law BLastPut: the closure (function 8), (*ring).last (function 9), slices.Equal (function 10).
-/
import Derived.Test.YbulkaviwRing
import Derived.Deep.QuietTactic
import Derived.BigQuiet
namespace Go.Proofs.Ybulkaviw
open Go.RowKit

theorem two_new_cell (w : World) (o : Obj) (x : Value) (t : TypeId) : ∀ (j : Nat) (y : Value), [x][j]? = some y → ((w.alloc o).alloc (.cells #[x] t)).cell? ((⟨w.heap.size + 1, 0, none⟩ : Addr).add j) = some y := by
  have h := cell_one_new (w.alloc o) x t
  simp only [World.size_alloc] at h
  exact h

/-- The answer of the closure. -/
def hit (v t : Int) : Bool := (v - t).tmod 3 == 0

set_option maxRecDepth 100000 in
set_option maxHeartbeats 1000000 in
/-- The closure: the log grows by the ordinal, the answer is the test's. -/
theorem asked (L T : Nat) (s v t : Int) (lv : Value) (ls : List Int) (w : World) (hv : -128 ≤ v ∧ v ≤ 127) (ht : -128 ≤ t ∧ t ≤ 127) (hT : T < L) (hL : w.heap[L]? = some (.cells #[lv] 47)) (hown : w.ownsRow (L + 1) 3 1 lv ls.length (ls.map (Value.int .i64))) (hl : ls.length ≤ 1024)
    (hc : w.cell? ⟨T, 0, none⟩ = some (.int .i8 t)) :
    Calls Yba.prog 8 #[.agg #[.int .i64 s, .int .i8 v], .pointer (some ⟨L, 0, none⟩), .pointer (some ⟨T, 0, none⟩)] w fun e w' => e = .returned (.bool (hit v t)) ∧ ∃ lv',
      w'.heap[L]? = some (.cells #[lv'] 47) ∧ w'.ownsRow (L + 1) 3 1 lv' (ls ++ [s]).length ((ls ++ [s]).map (Value.int .i64)) ∧ Below L w w' := by
  obtain ⟨i0, hi0, hz0, hz1, hz2⟩ := info_parts info3
  obtain ⟨v0, v1⟩ := hv
  obtain ⟨t0, t1⟩ := ht
  have lL : L < w.heap.size := by
    rcases Nat.lt_or_ge L w.heap.size with h | h
    · exact h
    · rw [Array.getElem?_eq_none h] at hL; cases hL
  have c0 : w.cell? ⟨L, 0, none⟩ = some lv := by rw [cell_of_row _ _ _ _ _ _ hL]; rfl
  have ag : lv.ownBlock ≠ some L := fun h => by have := (hown.lt L h).1; omega
  have ag2 : lv.ownBlock ≠ some T := fun h => by have := (hown.lt T h).1; omega
  have ag3 : lv.ownBlock ≠ some w.heap.size := fun h => by have := (hown.lt _ h).2; omega
  have HL := hidden hL
  have HOWN := hidden hown
  have hform := owns_slice hown
  clear hL hown
  obtain ⟨a0, cap0, rfl⟩ := hform
  go_enter Yba.func8, Yba.ntmps8
  go_wp2_with (at_builtin; go_must (refine wpList_append_lies _ (by rfl) _ _ 47 (by rfl) (L + 1) 3 i0 (.int .i64 0) 1 8 Yba.underlying47 hi0 hz0 hz1 hz2 rfl (by decide) _ _ _ (by rfl) ((HOWN.out.alloc _).alloc _) ⟨w.heap.size + 1, 0, none⟩ 1 1 [.int .i64 s] (by rfl) (by rfl) (two_new_cell _ _ _ _) (ints_oneCell .i64 [s]) (by decide) (by unfold maxLen; omega) (by omega) (by simp; omega) _ rfl ?_))
  intro gg cap w1 hown1 hgrow hat hlt1
  have hb1 := (hgrow.block L (by simp; omega) (Ne.symm ag)).trans ((two_heap w _ _ lL).trans HL.out)
  have hc1 : w1.cell? ⟨L, 0, none⟩ = some (.slice a0 ls.length cap0) := (cell_of_row _ _ _ _ _ _ hb1).trans rfl
  have hf1 : w1.frozen? ⟨L, 0, none⟩ = false := frozen_of_row _ _ _ _ _ hb1
  have hT1 : w1.cell? ⟨T, 0, none⟩ = some (.int .i8 t) := (World.cell?_of_block (w := w) (a := ⟨T, 0, none⟩) ((hgrow.block T (by simp; omega) (Ne.symm ag2)).trans (two_heap w _ _ (by omega)))).trans hc
  have hS1 : w1.cell? ⟨w.heap.size, 1, none⟩ = some (.int .i8 v) := by
    have h := (hgrow.block w.heap.size (by simp; omega) (Ne.symm ag3)).trans ((Below.heap_alloc _ _ _ (by simp)).trans (heap_alloc_new w _))
    rw [cell_of_row _ _ _ _ _ _ h]; rfl
  have HB1 := hidden hb1
  have HG := hidden hgrow
  have HO := hidden hown1
  have hTL : T ≠ L := by omega
  have hSL : w.heap.size ≠ L := by omega
  clear hb1 hgrow hown1 hat hlt1
  go_wp2
  go_ret
  refine ⟨rfl, _, (heap_setCell_same _ _ _ _ _ _ HB1.out).trans rfl, ?_, ?_⟩
  · have h := ownsRow_setCell_below HO.out (a := ⟨L, 0, none⟩) (by simp) (.slice (some ⟨gg, 0, none⟩) (ls.length + 1) cap)
    simpa using h
  · exact ((((Below.refl L w).alloc (by omega) _).alloc (by simp; omega) _).grown HG.out (by simp; omega) (fun k hk => by have := (HOWN.out.lt k hk).1; omega)).setCell (Nat.le_refl _) _

/-- The ordinals that are asked, from the newest back. -/
def ls (n k : Nat) : List Int := (List.range k).map fun j => ((n - 1 - j : Nat) : Int)
theorem ls_len (n k : Nat) : (ls n k).length = k := by simp [ls]
theorem ls_succ (n k : Nat) : ls n (k + 1) = ls n k ++ [((n - 1 - k : Nat) : Int)] := by simp [ls, List.range_succ]

end Go.Proofs.Ybulkaviw
