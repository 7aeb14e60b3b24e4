/-
  Seat b2335a, law CScript: the contract of copyOf (function 16).
-/
import Derived.Test.YbulkaviiKeep
namespace Go.Proofs.Ybulkavii
open Go.RowKit
namespace C

/-- What copyOf answers. -/
def ans (o : Option (Int × Bool)) : Int × Bool := o.getD (0, false)
theorem ans_held (o : Option (Int × Bool)) : (o.map heldV).getD (heldV (0, false)) = heldV (ans o) := by cases o <;> rfl

abbrev boxed2 (w : World) (s t : ByteArray) : World :=
  (w.alloc (.cells #[.string s, .string t] 82)).alloc (.cells #[.slice none 0 0, .int .u64 0, .bool false, .int .u64 0, .int .i64 0, .pointer none, .bool false] 90)

abbrev boxed3 (w : World) (s t : ByteArray) : World :=
  ((w.alloc (.cells #[.string s, .string t] 82)).alloc (.cells #[.slice none 0 0, .int .u64 0, .bool false, .int .u64 0, .int .i64 0, .pointer none, .bool false] 90)).alloc (.cells #[.slice none 0 0, .int .u64 0, .bool false, .int .u64 0, .int .i64 0, .pointer none, .bool false] 90)
theorem box3_cell (w : World) (s t : ByteArray) (o : Nat) (v : Value) (hv : (#[Value.string s, .string t] : Array Value)[o]? = some v) : (boxed3 w s t).cell? ⟨w.heap.size, o, none⟩ = some v := by
  rw [World.cell?_alloc_lt _ _ _ (by simp; omega), World.cell?_alloc_lt _ _ _ (by simp), cell_of_row _ _ _ _ _ _ (heap_alloc_new _ _), hv]

set_option maxRecDepth 10000 in
set_option maxHeartbeats 800000 in
theorem copy_vals (B : Nat) (w : World) (n : Nat) (σ : Nat → Nat → Option (Int × Bool)) (j : Nat) (h : NodeInv B w n σ) (hj : j < 3) :
    Calls Yba.prog 16 #[.pointer (some ⟨B + 2, 0, none⟩), nameV 0 j] w fun e w' => e = .returned (.tuple #[heldV (ans (σ 0 j)), .bool (σ 0 j).isSome]) ∧ Below w.heap.size w w' := by
  have hlt := h.lt
  have hb1 : Below w.heap.size w (boxed2 w (netS 0) (keyS j)).drew := (((Below.refl _ _).alloc (Nat.le_refl _) _).alloc (by simp) _).drew
  have hl1 := (h.later hb1).mv.lookOk Yba.underlying51 (zero90 _) (keyS j) (keyS_small j)
  rw [fK_at _ hj, ans_held, Option.isSome_map] at hl1
  have hb2 : Below w.heap.size w (boxed3 w (netS 0) (keyS j)).drew := ((((Below.refl _ _).alloc (Nat.le_refl _) _).alloc (by simp) _).alloc (by simp; omega) _).drew
  have hl2 := (h.later hb2).mv.lookOk Yba.underlying51 (zero90 _) (keyS j) (keyS_small j)
  rw [fK_at _ hj, ans_held, Option.isSome_map] at hl2
  have hv := h.vals
  have hv2 : (boxed3 w (netS 0) (keyS j)).cell? ⟨B + 2, 16, none⟩ = some (.map (some B)) := (h.later hb2).vals
  have hw2 : (boxed3 w (netS 0) (keyS j)).cell? ⟨w.heap.size, 1, none⟩ = some (.string (keyS j)) := box3_cell w _ _ 1 _ rfl
  have hemp : (netS 0).toList.isEmpty = true := by decide +kernel
  clear hb1 hb2
  generalize ans (σ 0 j) = q at *
  generalize (σ 0 j).isSome = ok at *
  dsimp only [heldV, boxed2, boxed3] at hl1 hl2 hv2 hw2
  go_enter Yba.func16, Yba.ntmps16
  go_wp2
  go_region
  all_goals
    go_wp2
    refine bodyPost_ret (v := .tuple #[.agg #[.slice none 0 0, .int .u64 q.1, .bool q.2, .int .u64 0, .int .i64 0, .pointer none, .bool false], .bool ok]) (by simp [results, Yba.results16, go_sem]) rfl ⟨rfl, ?_⟩
    repeat (first | exact Below.refl _ _ | (refine Below.drew ?_) | (refine Below.alloc ?_ (by simp; try omega) _) | (refine Below.setCell ?_ (by simp; try omega) _))

theorem zero90V : (heldV (0, false)) = .agg #[.slice none 0 0, .int .u64 0, .bool false, .int .u64 0, .int .i64 0, .pointer none, .bool false] := rfl
theorem look_nil51 (w : World) (s : ByteArray) (hs : s.size ≤ maxLen) : (Instr.lookup 51 (.map none) (.string s) true).run Yba.prog w = .ok (.tuple #[.agg #[.slice none 0 0, .int .u64 0, .bool false, .int .u64 0, .int .i64 0, .pointer none, .bool false], .bool false]) w :=
  Maps.look_nil true keyed9 Yba.underlying51 (zero90 w) (keyOf9 s hs)

set_option maxRecDepth 10000 in
set_option maxHeartbeats 800000 in
theorem copy_none (B : Nat) (w : World) (n : Nat) (σ : Nat → Nat → Option (Int × Bool)) (g : Nat → Option Nat) (i j : Nat) (h : NodeInv B w n σ) (hI : Inner B w n σ g) (hi1 : 1 ≤ i) (hi2 : i ≤ 2) (hg : g i = none) (hj : j < 3) :
    Calls Yba.prog 16 #[.pointer (some ⟨B + 2, 0, none⟩), nameV i j] w fun e w' => e = .returned (.tuple #[heldV (ans (σ i j)), .bool (σ i j).isSome]) ∧ Below w.heap.size w w' := by
  have hlt := h.lt
  rw [(hI.2.1 i hi1 hi2).1 hg j hj]
  show Calls Yba.prog 16 _ w fun e w' => e = .returned (.tuple #[.agg #[.slice none 0 0, .int .u64 0, .bool false, .int .u64 0, .int .i64 0, .pointer none, .bool false], .bool false]) ∧ Below w.heap.size w w'
  have hb1 : Below w.heap.size w (boxed2 w (netS i) (keyS j)).drew := (((Below.refl _ _).alloc (Nat.le_refl _) _).alloc (by simp) _).drew
  have hb2 : Below w.heap.size w (boxed3 w (netS i) (keyS j)).drew := ((((Below.refl _ _).alloc (Nat.le_refl _) _).alloc (by simp) _).alloc (by simp; omega) _).drew
  have hl1 := (hI.later hb1).1.look Yba.underlying52 (zero51 _) (netS i) (netS_small i)
  have hl2 := (hI.later hb2).1.look Yba.underlying52 (zero51 _) (netS i) (netS_small i)
  rw [fM_at _ hi1 hi2, hg] at hl1 hl2
  have hk := fun (w : World) => look_nil51 w (keyS j) (keyS_small j)
  have hv := h.mems
  have hv2 : (boxed3 w (netS i) (keyS j)).cell? ⟨B + 2, 17, none⟩ = some (.map (some (B + 1))) := (h.later hb2).mems
  have hw1 : (boxed3 w (netS i) (keyS j)).cell? ⟨w.heap.size, 0, none⟩ = some (.string (netS i)) := box3_cell w _ _ 0 _ rfl
  have hw2 : (boxed3 w (netS i) (keyS j)).cell? ⟨w.heap.size, 1, none⟩ = some (.string (keyS j)) := box3_cell w _ _ 1 _ rfl
  have hemp := net_empty hi1 hi2
  clear hb1 hb2 hI hg h
  dsimp only [heldV, mapV, boxed2, boxed3, Option.map_none, Option.getD_none] at hl1 hl2 hv2 hw1 hw2
  go_enter Yba.func16, Yba.ntmps16
  go_wp2
  go_region
  all_goals
    go_wp2
    refine bodyPost_ret (v := .tuple #[.agg #[.slice none 0 0, .int .u64 0, .bool false, .int .u64 0, .int .i64 0, .pointer none, .bool false], .bool false]) (by simp [results, Yba.results16, go_sem]) rfl ⟨rfl, ?_⟩
    repeat (first | exact Below.refl _ _ | (refine Below.drew ?_) | (refine Below.alloc ?_ (by simp; try omega) _) | (refine Below.setCell ?_ (by simp; try omega) _))

set_option maxRecDepth 10000 in
set_option maxHeartbeats 800000 in
theorem copy_some (B : Nat) (w : World) (n : Nat) (σ : Nat → Nat → Option (Int × Bool)) (g : Nat → Option Nat) (i j b : Nat) (h : NodeInv B w n σ) (hI : Inner B w n σ g) (hi1 : 1 ≤ i) (hi2 : i ≤ 2) (hg : g i = some b) (hj : j < 3) :
    Calls Yba.prog 16 #[.pointer (some ⟨B + 2, 0, none⟩), nameV i j] w fun e w' => e = .returned (.tuple #[heldV (ans (σ i j)), .bool (σ i j).isSome]) ∧ Below w.heap.size w w' := by
  have hlt := h.lt
  have hb1 : Below w.heap.size w (boxed2 w (netS i) (keyS j)).drew := (((Below.refl _ _).alloc (Nat.le_refl _) _).alloc (by simp) _).drew
  have hb2 : Below w.heap.size w (boxed3 w (netS i) (keyS j)).drew := ((((Below.refl _ _).alloc (Nat.le_refl _) _).alloc (by simp) _).alloc (by simp; omega) _).drew
  have hl1 := (hI.later hb1).1.look Yba.underlying52 (zero51 _) (netS i) (netS_small i)
  have hl2 := (hI.later hb2).1.look Yba.underlying52 (zero51 _) (netS i) (netS_small i)
  rw [fM_at _ hi1 hi2, hg] at hl1 hl2
  have hk1 := (((hI.later hb1).2.1 i hi1 hi2).2 b hg).2.lookOk Yba.underlying51 (zero90 _) (keyS j) (keyS_small j)
  have hk2 := (((hI.later hb2).2.1 i hi1 hi2).2 b hg).2.lookOk Yba.underlying51 (zero90 _) (keyS j) (keyS_small j)
  rw [fK_at _ hj, ans_held, Option.isSome_map] at hk1 hk2
  have hv := h.mems
  have hv2 : (boxed3 w (netS i) (keyS j)).cell? ⟨B + 2, 17, none⟩ = some (.map (some (B + 1))) := (h.later hb2).mems
  have hw1 : (boxed3 w (netS i) (keyS j)).cell? ⟨w.heap.size, 0, none⟩ = some (.string (netS i)) := box3_cell w _ _ 0 _ rfl
  have hw2 : (boxed3 w (netS i) (keyS j)).cell? ⟨w.heap.size, 1, none⟩ = some (.string (keyS j)) := box3_cell w _ _ 1 _ rfl
  have hemp := net_empty hi1 hi2
  clear hb1 hb2 hI hg h
  generalize ans (σ i j) = q at *
  generalize (σ i j).isSome = ok at *
  dsimp only [heldV, mapV, boxed2, boxed3, Option.map_some, Option.getD_some] at hl1 hl2 hk1 hk2 hv2 hw1 hw2
  go_enter Yba.func16, Yba.ntmps16
  go_wp2
  go_region
  all_goals
    go_wp2
    refine bodyPost_ret (v := .tuple #[.agg #[.slice none 0 0, .int .u64 q.1, .bool q.2, .int .u64 0, .int .i64 0, .pointer none, .bool false], .bool ok]) (by simp [results, Yba.results16, go_sem]) rfl ⟨rfl, ?_⟩
    repeat (first | exact Below.refl _ _ | (refine Below.drew ?_) | (refine Below.alloc ?_ (by simp; try omega) _) | (refine Below.setCell ?_ (by simp; try omega) _))

/-- copyOf: the copy at (i, j), and whether there is one. -/
theorem copy_any (B : Nat) (w : World) (n : Nat) (σ : Nat → Nat → Option (Int × Bool)) (i j : Nat) (h : NodeInv B w n σ) (hi : i < 3) (hj : j < 3) :
    Calls Yba.prog 16 #[.pointer (some ⟨B + 2, 0, none⟩), nameV i j] w fun e w' => e = .returned (.tuple #[heldV (ans (σ i j)), .bool (σ i j).isSome]) ∧ Below w.heap.size w w' := by
  by_cases hi0 : i = 0
  · subst hi0
    exact copy_vals B w n σ j h hj
  · obtain ⟨g, hI⟩ := h.inner
    cases hg : g i with
    | none => exact copy_none B w n σ g i j h hI (by omega) (by omega) hg hj
    | some b => exact copy_some B w n σ g i j b h hI (by omega) (by omega) hg hj

end C
end Go.Proofs.Ybulkavii
