/-
  Seat b2335a, law CScript: the contract of dropCopy (function 15).
-/
import Derived.Test.YbulkaviiKeep
import Derived.Deep.RegionLaw
namespace Go.Proofs.Ybulkavii
open Go.RowKit
namespace C

set_option maxRecDepth 10000 in
set_option maxHeartbeats 400000 in
theorem drop_vals (B : Nat) (w : World) (n : Nat) (σ : Nat → Nat → Option (Int × Bool)) (j : Nat) (h : NodeInv B w n σ) (hj : j < 3) :
    Calls Yba.prog 15 #[.pointer (some ⟨B + 2, 0, none⟩), nameV 0 j] w fun e w' => e = .returned (.tuple #[]) ∧ NodeInv B w' n (updN σ 0 (updN (σ 0) j none)) ∧ Below B w w' := by
  have hlt := h.lt
  have hb2 : Below w.heap.size w (w.alloc (.cells #[.string (netS 0), .string (keyS j)] 82)).drew := ((Below.refl _ _).alloc (Nat.le_refl _) _).drew
  have h1 := h.later hb2
  obtain ⟨w1, hrun, hm, ht⟩ := h1.mv.drop Yba.underlying51 (keyS j) (keyS_small j) 0
  have h2 := hidden (h1.turnVals (Nat.le_refl n) ht (hm.congr (fun x => by rw [show (none : Option Value) = (none : Option (Int × Bool)).map heldV from rfl]; exact fK_upd _ hj none x)))
  have hbel := hidden (Below.trans (hb2.mono (by omega : B ≤ w.heap.size)) ((Below.refl B _).grown ht.grown (by simp; omega) (fun k hk => by simp at hk; omega)))
  have hv := h.vals
  have hemp : (netS 0).toList.isEmpty = true := by decide +kernel
  clear hb2 h1 hm ht
  go_enter Yba.func15, Yba.ntmps15
  go_wp2
  go_region
  go_wp2
  exact bodyPost_ret (v := .tuple #[]) (by simp [results, Yba.results15, go_sem]) rfl ⟨rfl, h2.out, hbel.out⟩

theorem len_nil51 (w : World) (ty : TypeId) : (Builtin.len_ #[51] ty #[.map none]).run Yba.prog w = .ok (.int .i64 0) w := Maps.len_nil Yba.underlying51 ty
theorem drop_nil51 (w : World) (s : ByteArray) (hs : s.size ≤ maxLen) (ty : TypeId) : (Builtin.delete_ #[51, 9] ty #[.map none, .string s]).run Yba.prog w = .ok (.tuple #[]) w := Maps.drop_nil keyed9 Yba.underlying51 (keyOf9 s hs) ty

theorem upd_none {σ : Nat → Nat → Option (Int × Bool)} {i j : Nat} (h : σ i j = none) : updN σ i (updN (σ i) j none) = σ := by
  funext x y
  unfold updN
  by_cases hx : x = i
  · subst hx
    simp only [if_true]
    by_cases hy : y = j
    · subst hy; simp [h]
    · simp [hy]
  · simp [hx]

abbrev boxed1 (w : World) (s t : ByteArray) : World := w.alloc (.cells #[.string s, .string t] 82)

set_option maxRecDepth 10000 in
set_option maxHeartbeats 400000 in
theorem drop_none (B : Nat) (w : World) (n : Nat) (σ : Nat → Nat → Option (Int × Bool)) (g : Nat → Option Nat) (i j : Nat) (h : NodeInv B w n σ) (hI : Inner B w n σ g) (hi1 : 1 ≤ i) (hi2 : i ≤ 2) (hg : g i = none) (hj : j < 3) :
    Calls Yba.prog 15 #[.pointer (some ⟨B + 2, 0, none⟩), nameV i j] w fun e w' => e = .returned (.tuple #[]) ∧ NodeInv B w' n (updN σ i (updN (σ i) j none)) ∧ Below B w w' := by
  have hlt := h.lt
  have hz := (hI.2.1 i hi1 hi2).1 hg
  rw [upd_none (hz j hj)]
  have hb1 : Below w.heap.size w (boxed1 w (netS i) (keyS j)).drew := ((Below.refl _ _).alloc (Nat.le_refl _) _).drew
  have hb2 : Below w.heap.size w (boxed1 w (netS i) (keyS j)).drew.drew := hb1.drew
  have hb3 : Below w.heap.size w (boxed1 w (netS i) (keyS j)).drew.drew.drew := hb2.drew
  have hl1 := (hI.later hb1).1.look Yba.underlying52 (zero51 _) (netS i) (netS_small i)
  have hl2 := (hI.later hb2).1.look Yba.underlying52 (zero51 _) (netS i) (netS_small i)
  rw [fM_at _ hi1 hi2, hg] at hl1 hl2
  obtain ⟨w1, hrun, hm, ht⟩ := (hI.later hb3).1.drop Yba.underlying52 (netS i) (netS_small i) 0
  have h2 := hidden (turnMem (h.later hb3) (hI.later hb3) (Nat.le_refl n) (i := i) none hi1 hi2 ht (hm.congr (fun x => by rw [show (none : Option Value) = (none : Option Nat).map mapV from rfl]; exact fM_upd _ hi1 hi2 none x)) hz (fun b hb => by cases hb)).2
  have hbel := hidden (Below.trans (hb3.mono (by omega : B ≤ w.heap.size)) ((Below.refl B _).grown ht.grown (by simp; omega) (fun k hk => by simp at hk; omega)))
  have hv := h.mems
  have hln := len_nil51
  have hdn := fun (w : World) => drop_nil51 w (keyS j) (keyS_small j) 0
  have hemp := net_empty hi1 hi2
  clear hb1 hb2 hb3 hm ht hI h hg hz
  dsimp only [mapV, Option.map_none, Option.getD_none, boxed1] at hl1 hl2 hrun
  go_enter Yba.func15, Yba.ntmps15
  go_wp2
  go_region
  go_wp2
  go_region
  go_wp2
  go_region
  go_wp2
  go_end0
  exact ⟨rfl, h2.out, hbel.out⟩

/-- All of a network's keys are gone. -/
theorem all_none {τ : Nat → Option (Int × Bool)} (h : ∀ s, fK τ s = none) : ∀ j, j < 3 → τ j = none := fun j hj => by
  have := h (keyS j).data.toList
  rw [fK_at τ hj] at this
  simpa using this

set_option maxRecDepth 10000 in
set_option maxHeartbeats 800000 in
theorem drop_some (B : Nat) (w : World) (n : Nat) (σ : Nat → Nat → Option (Int × Bool)) (g : Nat → Option Nat) (i j b : Nat) (h : NodeInv B w n σ) (hI : Inner B w n σ g) (hi1 : 1 ≤ i) (hi2 : i ≤ 2) (hg : g i = some b) (hj : j < 3) :
    Calls Yba.prog 15 #[.pointer (some ⟨B + 2, 0, none⟩), nameV i j] w fun e w' => e = .returned (.tuple #[]) ∧ NodeInv B w' n (updN σ i (updN (σ i) j none)) ∧ Below B w w' := by
  have hlt := h.lt
  have hb1 : Below w.heap.size w (boxed1 w (netS i) (keyS j)).drew := ((Below.refl _ _).alloc (Nat.le_refl _) _).drew
  have hl1 := (hI.later hb1).1.look Yba.underlying52 (zero51 _) (netS i) (netS_small i)
  rw [fM_at _ hi1 hi2, hg] at hl1
  have hb3 := ((hI.2.1 i hi1 hi2).2 b hg).1
  have hbl := ((hI.2.1 i hi1 hi2).2 b hg).2.lt
  obtain ⟨w1, hrun1, hm1, ht1⟩ := (((hI.later hb1).2.1 i hi1 hi2).2 b hg).2.drop Yba.underlying51 (keyS j) (keyS_small j) 0
  have h1 := turnInner (h.later hb1) (hI.later hb1) (Nat.le_refl n) hi1 hi2 hg ht1 (hm1.congr (fun x => by rw [show (none : Option Value) = (none : Option (Int × Bool)).map heldV from rfl]; exact fK_upd _ hj none x))
  have hbel1 := Below.trans (hb1.mono (by omega : B ≤ w.heap.size)) ((Below.refl B _).grown ht1.grown (by simp; omega) (fun k hk => by simp at hk; omega))
  have hs1 : w1.heap.size = w.heap.size + 1 := by
    obtain ⟨es, ck, es', ck', _, rfl⟩ := ht1
    simp [ChangeMaps.setBlock]
  have hbx0 : w1.heap[w.heap.size]? = some (.cells #[.string (netS i), .string (keyS j)] 82) := by
    rw [turned_other ht1 (by simp) (by omega)]
    exact heap_alloc_new w _
  have c00 : w1.cell? ⟨w.heap.size, 0, none⟩ = some (.string (netS i)) := by rw [cell_of_row _ _ _ _ _ _ hbx0]; rfl
  have c01 : w1.cell? ⟨w.heap.size, 1, none⟩ = some (.string (keyS j)) := by rw [cell_of_row _ _ _ _ _ _ hbx0]; rfl
  have hv := h.mems
  have hv1 := h1.mems
  -- the networks' blocks are the same
  have hI1 : Inner B w1 n (updN σ i (updN (σ i) j none)) g := by
    obtain ⟨a1, a2, a3⟩ := hI.later hb1
    refine ⟨a1.block (turned_other ht1 a1.lt (by omega)), fun i' hi1' hi2' => ?_, a3⟩
    by_cases hii : i' = i
    · subst hii
      have e : updN σ i' (updN (σ i') j none) i' = updN (σ i') j none := by simp [updN]
      rw [e]
      refine ⟨fun hg' => absurd (hg'.symm.trans hg) (by simp), fun b' hb' => ?_⟩
      rw [hg] at hb'
      cases hb'
      exact ⟨hb3, hm1.congr (fun x => by rw [show (none : Option Value) = (none : Option (Int × Bool)).map heldV from rfl]; exact fK_upd _ hj none x)⟩
    · have e : updN σ i (updN (σ i) j none) i' = σ i' := by unfold updN; rw [if_neg hii]
      rw [e]
      exact ⟨(a2 i' hi1' hi2').1, fun b' hb' => ⟨((a2 i' hi1' hi2').2 b' hb').1, ((a2 i' hi1' hi2').2 b' hb').2.block (turned_other ht1 ((a2 i' hi1' hi2').2 b' hb').2.lt (apart a3 hi1 hi2 hi1' hi2' hii hg hb'))⟩⟩
  have hd1 : Below w1.heap.size w1 w1.drew := (Below.refl _ _).drew
  have hd2 : Below w1.heap.size w1 w1.drew.drew := (Below.refl _ _).drew.drew
  have hl2 := (hI1.later hd1).1.look Yba.underlying52 (zero51 _) (netS i) (netS_small i)
  rw [fM_at _ hi1 hi2, hg] at hl2
  obtain ⟨m, hlen, hm0, hmn⟩ := (((hI1.later hd1).2.1 i hi1 hi2).2 b hg).2.len Yba.underlying51 3
  have hemp := net_empty hi1 hi2
  dsimp only [mapV, Option.map_some, Option.getD_some, boxed1] at hl1 hl2 hrun1
  by_cases hmz : m = 0
  · have hz := all_none (hm0 hmz)
    subst hmz
    obtain ⟨w2, hrun2, hm2, ht2⟩ := (hI1.later hd2).1.drop Yba.underlying52 (netS i) (netS_small i) 0
    have h2 := hidden (turnMem (h1.later hd2) (hI1.later hd2) (Nat.le_refl n) (i := i) none hi1 hi2 ht2 (hm2.congr (fun x => by rw [show (none : Option Value) = (none : Option Nat).map mapV from rfl]; exact fM_upd _ hi1 hi2 none x)) hz (fun b hb => by cases hb)).2
    have hbel := hidden (hbel1.trans ((Below.refl B _).drew.drew.trans ((Below.refl B _).grown ht2.grown (by simp; omega) (fun k hk => by simp at hk; omega))))
    clear hb1 hm1 ht1 hI h hg hI1 h1 hd1 hd2 hm2 ht2 hm0 hz hbx0 hs1 hbel1
    go_enter Yba.func15, Yba.ntmps15
    go_wp2
    go_region
    go_wp2
    go_region
    go_wp2
    go_region
    go_wp2
    go_end0
    exact ⟨rfl, h2.out, hbel.out⟩
  · have hmB : ((m : Int) == 0) = false := by simp [hmz]
    have h2 := hidden (h1.later hd1)
    have hbel := hidden (hbel1.trans (Below.refl B _).drew)
    clear hb1 hm1 ht1 hI h hg hI1 h1 hd1 hd2 hm0 hbx0 hs1 hbel1 hmz
    go_enter Yba.func15, Yba.ntmps15
    go_wp2
    go_region
    go_wp2
    go_region
    go_wp2
    go_end0
    exact ⟨rfl, h2.out, hbel.out⟩

/-- dropCopy: the node holds no copy at (i, j). -/
theorem drop_any (B : Nat) (w : World) (n : Nat) (σ : Nat → Nat → Option (Int × Bool)) (i j : Nat) (h : NodeInv B w n σ) (hi : i < 3) (hj : j < 3) :
    Calls Yba.prog 15 #[.pointer (some ⟨B + 2, 0, none⟩), nameV i j] w fun e w' => e = .returned (.tuple #[]) ∧ NodeInv B w' n (updN σ i (updN (σ i) j none)) ∧ Below B w w' := by
  by_cases hi0 : i = 0
  · subst hi0
    exact drop_vals B w n σ j h hj
  · obtain ⟨g, hI⟩ := h.inner
    cases hg : g i with
    | none => exact drop_none B w n σ g i j h hI (by omega) (by omega) hg hj
    | some b => exact drop_some B w n σ g i j b h hI (by omega) (by omega) hg hj

end C
end Go.Proofs.Ybulkavii
