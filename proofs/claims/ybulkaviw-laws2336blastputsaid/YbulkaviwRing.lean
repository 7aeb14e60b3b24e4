/-
  Seat b2336a, law BLastPut: the contracts of (*ring).put (function 7).
-/
import Derived.Test.YbulkaviwProg
import Derived.WalkKit
import Derived.WalkSpells
import Derived.WalkLawsBesides
import Derived.OwnWalk
import Derived.OneCell
import Derived.Deep.RegionHeld3
import Derived.Deep.RegionLaw
import Derived.Deep.AppendLies
namespace Go.Proofs.Ybulkaviw
open Go.RowKit

theorem hidden {p : Prop} (h : p) : Hid p := h

theorem info46 : (Yba.prog.info? 46).map (fun i => (i.zero, i.size, i.bytes)) = some (some (.agg #[.int .i64 0, .int .i8 0]), 2, 16) := by kernel_rfl
theorem info3 : (Yba.prog.info? 3).map (fun i => (i.zero, i.size, i.bytes)) = some (some (.int .i64 0), 1, 8) := by kernel_rfl

theorem two_new (w : World) (o o' : Obj) : ((w.alloc o).alloc o').drew.heap[w.heap.size + 1]? = some o' := by
  have h := heap_alloc_new (w.alloc o) o'
  simp only [World.size_alloc] at h
  exact h
theorem two_heap (w : World) (o o' : Obj) {R : Nat} (lR : R < w.heap.size) : ((w.alloc o).alloc o').drew.heap[R]? = w.heap[R]? := by
  show ((w.alloc o).alloc o').heap[R]? = _
  rw [Below.heap_alloc _ _ _ (by simp; omega), Below.heap_alloc _ _ _ lR]

theorem owns_slice {w : World} {base : Nat} {e : TypeId} {size : Nat} {v : Value} {n : Nat} {xs : List Value} (h : w.ownsRow base e size v n xs) : ∃ a cap, v = .slice a n cap := by
  rcases h.2 with ⟨rfl, rfl⟩ | ⟨g, cap, _, h, _⟩
  · exact ⟨none, 0, rfl⟩
  · exact ⟨_, cap, h⟩

set_option maxRecDepth 100000 in
set_option maxHeartbeats 1000000 in
theorem put_room (R m sz : Nat) (held : Value) (nx s v : Int) (xs : List Value) (w : World) (hR : w.heap[R]? = some (.cells #[held, .int .i64 nx] 43)) (hown : w.ownsRow (R + 1) 46 2 held m xs) (hm : m < sz) (hsz : sz ≤ 16) :
    Calls Yba.prog 7 #[.pointer (some ⟨R, 0, none⟩), .agg #[.int .i64 s, .int .i8 v], .int .i64 sz] w fun e w' => e = .returned (.tuple #[]) ∧ ∃ g cap,
      w'.heap[R]? = some (.cells #[.slice (some ⟨g, 0, none⟩) (m + 1) cap, .int .i64 nx] 43) ∧ w'.ownsRow (R + 1) 46 2 (.slice (some ⟨g, 0, none⟩) (m + 1) cap) (m + 1) (xs ++ [.int .i64 s, .int .i8 v]) ∧ Below R w w' := by
  obtain ⟨i0, hi0, hz0, hz1, hz2⟩ := info_parts info46
  have lR : R < w.heap.size := by
    rcases Nat.lt_or_ge R w.heap.size with h | h
    · exact h
    · rw [Array.getElem?_eq_none h] at hR; cases hR
  have c0 : w.cell? ⟨R, 0, none⟩ = some held := by rw [cell_of_row _ _ _ _ _ _ hR]; rfl
  have f0 : w.frozen? ⟨R, 0, none⟩ = false := frozen_of_row _ _ _ _ _ hR
  have ag : held.ownBlock ≠ some R := fun h => by have := (hown.lt R h).1; omega
  have ag2 : held.ownBlock ≠ some w.heap.size := fun h => by have := (hown.lt _ h).2; omega
  have hlt : (m : Int) < (sz : Int) := by omega
  have HR := hidden hR
  have HOWN := hidden hown
  have hform := owns_slice hown
  clear hR hown
  obtain ⟨a0, cap0, rfl⟩ := hform
  go_enter Yba.func7, Yba.ntmps7
  go_wp2_with fail
  go_region_law
    ((refine step_append_lies _ (by rfl) _ _ _ (by rfl) (R + 1) 46 i0 _ 2 16 Yba.underlying41 hi0 hz0 hz1 hz2 rfl (by omega) _ _ xs (by rfl) (((HOWN.out.alloc _).alloc _).drew)
        ⟨w.heap.size + 1, 0, none⟩ 1 1 [.int .i64 s, .int .i8 v] (by rfl) (by rfl) (World.news_of_block (cs := #[.int .i64 s, .int .i8 v]) (t := 46) (fr := (0, 0)) (two_new w _ _)) (by simp [Value.oneCell'])
        (by omega) (by unfold maxLen; omega) (by omega) (by simp; omega) (w.heap.size + 1 + 1) (by simp) ?_; intro gg cap w1 hown1 hgrow hat hlt1; have hb1 := (hgrow.block R (by simp; omega) (Ne.symm ag)).trans ((two_heap w _ _ lR).trans HR.out); have hc1 : w1.cell? ⟨R, 0, none⟩ = some (.slice a0 m cap0) := (cell_of_row _ _ _ _ _ _ hb1).trans rfl; have hf1 : w1.frozen? ⟨R, 0, none⟩ = false := frozen_of_row _ _ _ _ _ hb1; have HB1 := hidden hb1; clear hb1))
  all_goals go_wp2
  all_goals refine bodyPost_ret (v := .tuple #[]) (by simp [results, Yba.results7, go_sem]) rfl ⟨rfl, gg, cap, ?_, ?_, ?_⟩
  all_goals first
    | exact (heap_setCell_same _ _ _ _ _ _ HB1.out).trans rfl
    | exact ownsRow_setCell_below hown1 (by simp) _
    | exact (((((Below.refl R w).alloc (by omega) _).alloc (by simp; omega) _).drew).grown hgrow (by simp; omega) (fun k hk => by have := (HOWN.out.lt k hk).1; omega)).setCell (Nat.le_refl _) _

set_option maxRecDepth 100000 in
set_option maxHeartbeats 1000000 in
theorem put_full (R g cap q sz : Nat) (s v : Int) (xs : List Value) (w : World) (hR : w.heap[R]? = some (.cells #[.slice (some ⟨g, 0, none⟩) sz cap, .int .i64 q] 43)) (hown : w.ownsRow (R + 1) 46 2 (.slice (some ⟨g, 0, none⟩) sz cap) sz xs) (hq : q < sz) (hsz : sz ≤ 16) :
    Calls Yba.prog 7 #[.pointer (some ⟨R, 0, none⟩), .agg #[.int .i64 s, .int .i8 v], .int .i64 sz] w fun e w' => e = .returned (.tuple #[]) ∧
      w'.heap[R]? = some (.cells #[.slice (some ⟨g, 0, none⟩) sz cap, .int .i64 (((q + 1) % sz : Nat) : Int)] 43) ∧ w'.ownsRow (R + 1) 46 2 (.slice (some ⟨g, 0, none⟩) sz cap) sz ((xs.set (q * 2) (.int .i64 s)).set (q * 2 + 1) (.int .i8 v)) ∧ Below R w w' := by
  have lR : R < w.heap.size := by
    rcases Nat.lt_or_ge R w.heap.size with h | h
    · exact h
    · rw [Array.getElem?_eq_none h] at hR; cases hR
  have hgR := (hown.lt g rfl).1
  have hgS := (hown.lt g rfl).2
  have c0 : w.cell? ⟨R, 0, none⟩ = some (.slice (some ⟨g, 0, none⟩) sz cap) := by rw [cell_of_row _ _ _ _ _ _ hR]; rfl
  have c1 : w.cell? ⟨R, 1, none⟩ = some (.int .i64 q) := by rw [cell_of_row _ _ _ _ _ _ hR]; rfl
  have f1 : w.frozen? ⟨R, 1, none⟩ = false := frozen_of_row _ _ _ _ _ hR
  have hxl := hown.1
  obtain ⟨x0, hx0⟩ : ∃ x, w.cell? ⟨g, q * 2, none⟩ = some x := by rw [hown.cellAt (q * 2) (by omega), List.getElem?_eq_getElem (by omega)]; exact ⟨_, rfl⟩
  obtain ⟨x1, hx1⟩ : ∃ x, w.cell? ⟨g, q * 2 + 1, none⟩ = some x := by rw [hown.cellAt (q * 2 + 1) (by omega), List.getElem?_eq_getElem (by omega)]; exact ⟨_, rfl⟩
  have g0 : w.frozen? ⟨g, q * 2, none⟩ = false := hown.frozenAt _
  have g1 : w.frozen? ⟨g, q * 2 + 1, none⟩ = false := hown.frozenAt _
  have hlt : ¬ (sz : Int) < (sz : Int) := by omega
  have hq0 : (0 : Int) ≤ (q : Int) := by omega
  have hq1 : (q : Int) < (sz : Int) := by omega
  have hz0 : ((sz : Int) == 0) = false := by rw [beq_eq_false_iff_ne]; omega
  have hgne : g ≠ R := by omega
  have hgne2 : R ≠ g := by omega
  have HR := hidden hR
  have HOWN := hidden hown
  clear hR hown hxl
  go_enter Yba.func7, Yba.ntmps7
  go_wp2_with fail
  go_region
  go_wp2
  go_end0
  have o1 := (HOWN.out.stored (q * 2) (.int .i64 s)).1
  have o2 := (o1.stored (q * 2 + 1) (.int .i8 v)).1
  refine ⟨rfl, ?_, ((ownsRow_setCell_below o2 (by simp) _).alloc _).drew, ?_⟩
  · have hR2 : ((w.setCell ⟨g, q * 2, none⟩ (.int .i64 s)).setCell ⟨g, q * 2 + 1, none⟩ (.int .i8 v)).heap[R]? = some (.cells #[.slice (some ⟨g, 0, none⟩) sz cap, .int .i64 q] 43) := by
      rw [Below.heap_setCell _ _ _ _ hgne2, Below.heap_setCell _ _ _ _ hgne2]; exact HR.out
    refine (Below.heap_alloc _ _ _ (by simp [World.setCell]; omega)).trans ?_
    rw [heap_setCell_same _ _ _ _ _ _ hR2]
    simp
  · exact (((((Below.refl R w).setCell (by show R ≤ g; omega) _).setCell (by show R ≤ g; omega) _).setCell (Nat.le_refl _) _).alloc (by simp [World.setCell]; omega) _).drew

end Go.Proofs.Ybulkaviw
