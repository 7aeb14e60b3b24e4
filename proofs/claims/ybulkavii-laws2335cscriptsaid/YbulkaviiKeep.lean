/-
  Seat b2335a, law CScript: the contract of keepCopy (function 14).
-/
import Derived.Test.YbulkaviiNode
import Derived.Deep.RegionHeld3
namespace Go.Proofs.Ybulkavii
open Go.RowKit
namespace C

theorem size_alloc (w : World) (o : Obj) : (w.alloc o).heap.size = w.heap.size + 1 := by simp
theorem small (s : ByteArray) (h : s.size ≤ 2) : s.size ≤ maxLen := by unfold maxLen; omega
theorem keyS_small (j : Nat) : (keyS j).size ≤ maxLen := by
  apply small
  match j with
  | 0 => decide
  | 1 => decide
  | _ + 2 => exact Nat.zero_le _
theorem netS_small (j : Nat) : (netS j).size ≤ maxLen := by
  apply small
  match j with
  | 0 => decide
  | 1 => decide
  | _ + 2 => exact Nat.le_refl _

set_option maxRecDepth 10000 in
set_option maxHeartbeats 400000 in
theorem keep_vals (B : Nat) (w : World) (n : Nat) (σ : Nat → Nat → Option (Int × Bool)) (j : Nat) (p : Int × Bool) (h : NodeInv B w n σ) (hn : n < 5000) (hj : j < 3) :
    Calls Yba.prog 14 #[.pointer (some ⟨B + 2, 0, none⟩), nameV 0 j, heldV p] w fun e w' => e = .returned (.tuple #[]) ∧ NodeInv B w' (n + 1) (updN σ 0 (updN (σ 0) j (some p))) ∧ Below B w w' := by
  have hlt := h.lt
  have hb2 : Below w.heap.size w (((w.alloc (.cells #[.string (netS 0), .string (keyS j)] 82)).alloc (.cells #[.slice none 0 0, .int .u64 p.1, .bool p.2, .int .u64 0, .int .i64 0, .pointer none, .bool false] 90)).drew) :=
    (((Below.refl _ _).alloc (Nat.le_refl _) _).alloc (by simp) _).drew
  have h1 := h.later hb2
  obtain ⟨w1, hrun, hm, ht⟩ := h1.mv.store Yba.underlying51 (by unfold maxLen; omega) (keyS j) (keyS_small j) (heldV p)
  have h2 := hidden (h1.turnVals (Nat.le_succ n) ht (hm.congr (fun x => by rw [show (some (heldV p)) = (some p).map heldV from rfl]; exact fK_upd _ hj (some p) x)))
  have hbel := hidden (Below.trans (hb2.mono (by omega : B ≤ w.heap.size)) ((Below.refl B _).grown ht.grown (by simp; omega) (fun k hk => by simp at hk; omega)))
  have hv := h.vals
  clear hb2 h1 hm ht
  dsimp only [heldV] at hrun
  have hemp : (netS 0).toList.isEmpty = true := by decide +kernel
  go_enter Yba.func14, Yba.ntmps14
  go_wp2
  go_region
  go_wp2
  exact bodyPost_ret (v := .tuple #[]) (by simp [results, Yba.results14, go_sem]) rfl ⟨rfl, h2.out, hbel.out⟩

theorem zero51 (w : World) : (zeroValue 51).run Yba.prog w = .ok (.map none) w := by kernel_rfl
theorem zero90 (w : World) : (zeroValue 90).run Yba.prog w = .ok (heldV (0, false)) w := by kernel_rfl
theorem eql51 (w : World) (r : Option Nat) : (binOp .eql 51 (.map r) (.map none)).run Yba.prog w = .ok (.bool r.isNone) w := run_eql_map_nil w _ _ _ r Yba.underlying51
theorem net_empty {i : Nat} (h1 : 1 ≤ i) (h2 : i ≤ 2) : (netS i).toList.isEmpty = false := by
  rcases two h1 h2 with rfl | rfl <;> decide +kernel

/-- The world behind the two boxes of keepCopy's parameters. -/
abbrev boxed (w : World) (s t : ByteArray) (p : Int × Bool) : World :=
  (w.alloc (.cells #[.string s, .string t] 82)).alloc (.cells #[.slice none 0 0, .int .u64 p.1, .bool p.2, .int .u64 0, .int .i64 0, .pointer none, .bool false] 90)

set_option maxRecDepth 10000 in
set_option maxHeartbeats 400000 in
theorem keep_some (B : Nat) (w : World) (n : Nat) (σ : Nat → Nat → Option (Int × Bool)) (g : Nat → Option Nat) (i j b : Nat) (p : Int × Bool) (h : NodeInv B w n σ) (hI : Inner B w n σ g) (hi1 : 1 ≤ i) (hi2 : i ≤ 2) (hg : g i = some b) (hn : n < 5000) (hj : j < 3) :
    Calls Yba.prog 14 #[.pointer (some ⟨B + 2, 0, none⟩), nameV i j, heldV p] w fun e w' => e = .returned (.tuple #[]) ∧ NodeInv B w' (n + 1) (updN σ i (updN (σ i) j (some p))) ∧ Below B w w' := by
  have hlt := h.lt
  have hb1 : Below w.heap.size w (boxed w (netS i) (keyS j) p).drew := (((Below.refl _ _).alloc (Nat.le_refl _) _).alloc (by simp) _).drew
  have hb2 : Below w.heap.size w (boxed w (netS i) (keyS j) p).drew.drew := hb1.drew
  have hl1 := (hI.later hb1).1.look Yba.underlying52 (zero51 _) (netS i) (netS_small i)
  have hl2 := (hI.later hb2).1.look Yba.underlying52 (zero51 _) (netS i) (netS_small i)
  rw [fM_at _ hi1 hi2, hg] at hl1 hl2
  obtain ⟨w1, hrun, hm, ht⟩ := (((hI.later hb2).2.1 i hi1 hi2).2 b hg).2.store Yba.underlying51 (by unfold maxLen; omega) (keyS j) (keyS_small j) (heldV p)
  have hb3 := ((hI.2.1 i hi1 hi2).2 b hg).1
  have h2 := hidden (turnInner (h.later hb2) (hI.later hb2) (Nat.le_succ n) hi1 hi2 hg ht (hm.congr (fun x => by rw [show (some (heldV p)) = (some p).map heldV from rfl]; exact fK_upd _ hj (some p) x)))
  have hbel := hidden (Below.trans (hb2.mono (by omega : B ≤ w.heap.size)) ((Below.refl B _).grown ht.grown (by simp; omega) (fun k hk => by simp at hk; omega)))
  have hv := h.mems
  have hq := eql51
  have hemp := net_empty hi1 hi2
  clear hb1 hb2 hm ht hI h hg
  dsimp only [heldV, mapV, Option.map_some, Option.getD_some] at hrun hl1 hl2
  go_enter Yba.func14, Yba.ntmps14
  go_wp2
  go_region
  go_wp2
  go_region
  go_wp2
  go_end0
  exact ⟨rfl, h2.out, hbel.out⟩

theorem heap_alloc_at (w : World) (o : Obj) (g : Nat) (h : w.heap.size = g) : (w.alloc o).heap[g]? = some o := by subst h; exact heap_alloc_new w o

set_option maxRecDepth 10000 in
set_option maxHeartbeats 800000 in
theorem keep_none (B : Nat) (w : World) (n : Nat) (σ : Nat → Nat → Option (Int × Bool)) (g : Nat → Option Nat) (i j : Nat) (p : Int × Bool) (h : NodeInv B w n σ) (hI : Inner B w n σ g) (hi1 : 1 ≤ i) (hi2 : i ≤ 2) (hg : g i = none) (hn : n < 5000) (hj : j < 3) :
    Calls Yba.prog 14 #[.pointer (some ⟨B + 2, 0, none⟩), nameV i j, heldV p] w fun e w' => e = .returned (.tuple #[]) ∧ NodeInv B w' (n + 2) (updN σ i (updN (σ i) j (some p))) ∧ Below B w w' := by
  have hlt := h.lt
  have hb1 : Below w.heap.size w (boxed w (netS i) (keyS j) p).drew := (((Below.refl _ _).alloc (Nat.le_refl _) _).alloc (by simp) _).drew
  have hb2 : Below w.heap.size w ((boxed w (netS i) (keyS j) p).alloc (.map #[] 0)).drew.drew := ((((Below.refl _ _).alloc (Nat.le_refl _) _).alloc (by simp) _).alloc (by simp; omega) _).drew.drew
  have hl1 := (hI.later hb1).1.look Yba.underlying52 (zero51 _) (netS i) (netS_small i)
  rw [fM_at _ hi1 hi2, hg] at hl1
  -- the new map
  have hnew : MapAt ((boxed w (netS i) (keyS j) p).alloc (.map #[] 0)).drew.drew (w.heap.size + 1 + 1) 0 (fun _ => none) := by
    have := MapAt.made (boxed w (netS i) (keyS j) p)
    rw [size_alloc, size_alloc] at this
    exact this.block rfl
  have hI2 := hI.later hb2
  have hfresh : ∀ i', 1 ≤ i' → i' ≤ 2 → g i' ≠ some (w.heap.size + 1 + 1) := fun i' h1 h2 e => by
    have := ((hI.2.1 i' h1 h2).2 _ e).2.lt
    omega
  obtain ⟨w2, hrun2, hm2, ht2⟩ := hI2.1.store Yba.underlying52 (by unfold maxLen; omega) (netS i) (netS_small i) (mapV (w.heap.size + 1 + 1))
  obtain ⟨hI3, h3⟩ := turnMem (h.later hb2) hI2 (Nat.le_succ n) (i := i) (some (w.heap.size + 1 + 1)) hi1 hi2 ht2 (hm2.congr (fun x => by rw [show (some (mapV (w.heap.size + 1 + 1))) = (some (w.heap.size + 1 + 1)).map mapV from rfl]; exact fM_upd _ hi1 hi2 _ x))
    ((hI.2.1 i hi1 hi2).1 hg) (fun b hb => by cases hb; exact ⟨by omega, hnew.mono (by omega), hfresh⟩)
  have hg3 : updN g i (some (w.heap.size + 1 + 1)) i = some (w.heap.size + 1 + 1) := by simp [updN]
  have hs2 : w2.heap.size = w.heap.size + 1 + 1 + 1 := by
    obtain ⟨es, ck, es', ck', _, rfl⟩ := ht2
    simp [ChangeMaps.setBlock]
  have hblk : ∀ c, c < w.heap.size + 1 + 1 → c ≠ B + 1 → w2.heap[c]? = (boxed w (netS i) (keyS j) p).heap[c]? := fun c hc hne => by
    rw [turned_other ht2 (by simp; omega) hne]
    exact Below.heap_alloc _ _ _ (by simp; omega)
  have hbx0 : w2.heap[w.heap.size]? = some (.cells #[.string (netS i), .string (keyS j)] 82) := by
    rw [hblk _ (by omega) (by omega), Below.heap_alloc _ _ _ (by simp), heap_alloc_new]
  have hbx1 : w2.heap[w.heap.size + 1]? = some (.cells #[.slice none 0 0, .int .u64 p.1, .bool p.2, .int .u64 0, .int .i64 0, .pointer none, .bool false] 90) := by
    rw [hblk _ (by omega) (by omega), heap_alloc_at _ _ _ (size_alloc _ _)]
  have c00 : w2.cell? ⟨w.heap.size, 0, none⟩ = some (.string (netS i)) := by rw [cell_of_row _ _ _ _ _ _ hbx0]; rfl
  have c01 : w2.cell? ⟨w.heap.size, 1, none⟩ = some (.string (keyS j)) := by rw [cell_of_row _ _ _ _ _ _ hbx0]; rfl
  have c10 : w2.cell? ⟨w.heap.size + 1, 0, none⟩ = some (.slice none 0 0) := by rw [cell_of_row _ _ _ _ _ _ hbx1]; rfl
  have c11 : w2.cell? ⟨w.heap.size + 1, 1, none⟩ = some (.int .u64 p.1) := by rw [cell_of_row _ _ _ _ _ _ hbx1]; rfl
  have c12 : w2.cell? ⟨w.heap.size + 1, 2, none⟩ = some (.bool p.2) := by rw [cell_of_row _ _ _ _ _ _ hbx1]; rfl
  have c13 : w2.cell? ⟨w.heap.size + 1, 3, none⟩ = some (.int .u64 0) := by rw [cell_of_row _ _ _ _ _ _ hbx1]; rfl
  have c14 : w2.cell? ⟨w.heap.size + 1, 4, none⟩ = some (.int .i64 0) := by rw [cell_of_row _ _ _ _ _ _ hbx1]; rfl
  have c15 : w2.cell? ⟨w.heap.size + 1, 5, none⟩ = some (.pointer none) := by rw [cell_of_row _ _ _ _ _ _ hbx1]; rfl
  have c16 : w2.cell? ⟨w.heap.size + 1, 6, none⟩ = some (.bool false) := by rw [cell_of_row _ _ _ _ _ _ hbx1]; rfl
  have hv2 := h3.mems
  have hd2 : Below w2.heap.size w2 w2.drew := (Below.refl _ _).drew
  have hl2 := (hI3.later hd2).1.look Yba.underlying52 (zero51 _) (netS i) (netS_small i)
  rw [fM_at _ hi1 hi2, hg3] at hl2
  obtain ⟨w3, hrun3, hm3, ht3⟩ := (((hI3.later hd2).2.1 i hi1 hi2).2 _ hg3).2.store Yba.underlying51 (by unfold maxLen; omega) (keyS j) (keyS_small j) (heldV p)
  have h4 := hidden (turnInner (h3.later hd2) (hI3.later hd2) (Nat.le_succ (n + 1)) hi1 hi2 hg3 ht3 (hm3.congr (fun x => by rw [show (some (heldV p)) = (some p).map heldV from rfl]; exact fK_upd _ hj (some p) x)))
  have hbel := hidden (Below.trans (hb2.mono (by omega : B ≤ w.heap.size)) (((Below.refl B _).grown ht2.grown (by simp; omega) (fun k hk => by simp at hk; omega)).trans (((Below.refl B _).drew).trans ((Below.refl B _).grown ht3.grown (by simp; omega) (fun k hk => by simp at hk; omega)))))
  have hv := h.mems
  have hq := eql51
  have hemp := net_empty hi1 hi2
  have hmm := @run_makeMap Yba.prog
  have hva : ((boxed w (netS i) (keyS j) p).alloc (.map #[] 0)).cell? ⟨B + 2, 17, none⟩ = some (.map (some (B + 1))) := (h.later hb2).mems
  have hvb : ((boxed w (netS i) (keyS j) p).alloc (.map #[] 0)).cell? ⟨w.heap.size, 0, none⟩ = some (.string (netS i)) := by
    rw [World.cell?_of_block (w := boxed w (netS i) (keyS j) p) (a := ⟨w.heap.size, 0, none⟩) (Below.heap_alloc _ _ _ (by simp; omega)), cell_of_row _ _ _ _ _ _ (heap_alloc2_old _ _ _)]; rfl
  clear hb1 hb2 hm2 ht2 hI h hg hI2 hI3 h3 hnew hfresh hg3 hblk hbx0 hbx1 hd2 hm3 ht3 hs2
  dsimp only [heldV, mapV, Option.map_some, Option.getD_some, Option.map_none, Option.getD_none, boxed] at hrun2 hrun3 hl1 hl2 hva hvb
  go_enter Yba.func14, Yba.ntmps14
  go_wp2
  go_region
  go_wp2
  go_region
  go_wp2
  go_region
  go_wp2
  go_end0
  exact ⟨rfl, h4.out, hbel.out⟩

/-- keepCopy: the copy p is the node's copy at (i, j). -/
theorem keep_any (B : Nat) (w : World) (n : Nat) (σ : Nat → Nat → Option (Int × Bool)) (i j : Nat) (p : Int × Bool) (h : NodeInv B w n σ) (hi : i < 3) (hn : n < 5000) (hj : j < 3) :
    Calls Yba.prog 14 #[.pointer (some ⟨B + 2, 0, none⟩), nameV i j, heldV p] w fun e w' => e = .returned (.tuple #[]) ∧ NodeInv B w' (n + 2) (updN σ i (updN (σ i) j (some p))) ∧ Below B w w' := by
  by_cases hi0 : i = 0
  · subst hi0
    exact (keep_vals B w n σ j p h hn hj).mono fun e w' ⟨h1, h2, h3⟩ => ⟨h1, h2.mono (by omega), h3⟩
  · obtain ⟨g, hI⟩ := h.inner
    cases hg : g i with
    | none => exact keep_none B w n σ g i j p h hI (by omega) (by omega) hg hn hj
    | some b => exact (keep_some B w n σ g i j b p h hI (by omega) (by omega) hg hn hj).mono fun e w' ⟨h1, h2, h3⟩ => ⟨h1, h2.mono (by omega), h3⟩

end C
end Go.Proofs.Ybulkavii
