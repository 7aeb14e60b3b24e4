/-
  Seat b2335a, law CScript: what the node's memory is at each moment; how stores, deletes and new blocks turn it.
-/
import Derived.Test.YbulkaviiMapAt
import Derived.Test.YbulkaviiName
namespace Go.Proofs.Ybulkavii
open Go.RowKit
namespace C

/-- A copy as keepCopy is handed it. -/
abbrev heldV (p : Int × Bool) : Value := .agg #[.slice none 0 0, .int .u64 p.1, .bool p.2, .int .u64 0, .int .i64 0, .pointer none, .bool false]
abbrev mapV (b : Nat) : Value := .map (some b)

def updN {α : Type} (τ : Nat → α) (j : Nat) (o : α) : Nat → α := fun x => if x = j then o else τ x
def fK (τ : Nat → Option (Int × Bool)) (s : List UInt8) : Option Value :=
  if s = [97] then (τ 0).map heldV else if s = [98] then (τ 1).map heldV else if s = [] then (τ 2).map heldV else none
def fM (g : Nat → Option Nat) (s : List UInt8) : Option Value :=
  if s = [110, 49] then (g 1).map mapV else if s = [110, 50] then (g 2).map mapV else none

theorem three {j : Nat} (h : j < 3) : j = 0 ∨ j = 1 ∨ j = 2 := by omega
theorem two {i : Nat} (h1 : 1 ≤ i) (h2 : i ≤ 2) : i = 1 ∨ i = 2 := by omega

theorem fK_at (τ : Nat → Option (Int × Bool)) {j : Nat} (h : j < 3) : fK τ (keyS j).data.toList = (τ j).map heldV := by
  rcases three h with rfl | rfl | rfl <;> simp [fK, keyS]
theorem fM_at (g : Nat → Option Nat) {i : Nat} (h1 : 1 ≤ i) (h2 : i ≤ 2) : fM g (netS i).data.toList = (g i).map mapV := by
  rcases two h1 h2 with rfl | rfl <;> simp [fM, netS]
theorem fK_upd (τ : Nat → Option (Int × Bool)) {j : Nat} (h : j < 3) (o : Option (Int × Bool)) (x : List UInt8) : (if x = (keyS j).data.toList then o.map heldV else fK τ x) = fK (updN τ j o) x := by
  rcases three h with rfl | rfl | rfl
  all_goals
    simp only [fK, keyS, updN]
    by_cases h1 : x = [97]
    · subst h1; simp
    · by_cases h2 : x = [98]
      · subst h2; simp
      · by_cases h3 : x = []
        · subst h3; simp
        · simp [h1, h2, h3]
theorem fM_upd (g : Nat → Option Nat) {i : Nat} (h1 : 1 ≤ i) (h2 : i ≤ 2) (o : Option Nat) (x : List UInt8) : (if x = (netS i).data.toList then o.map mapV else fM g x) = fM (updN g i o) x := by
  rcases two h1 h2 with rfl | rfl
  all_goals
    simp only [fM, netS, updN]
    by_cases h1 : x = [110, 49]
    · subst h1; simp
    · by_cases h2 : x = [110, 50]
      · subst h2; simp
      · simp [h1, h2]

structure NodeInv (B : Nat) (w : World) (n : Nat) (σ : Nat → Nat → Option (Int × Bool)) : Prop where
  vals : w.cell? ⟨B + 2, 16, none⟩ = some (.map (some B))
  mems : w.cell? ⟨B + 2, 17, none⟩ = some (.map (some (B + 1)))
  mv : MapAt w B n (fK (σ 0))
  inner : ∃ g : Nat → Option Nat, MapAt w (B + 1) n (fM g) ∧ (∀ i, 1 ≤ i → i ≤ 2 → (g i = none → ∀ j, j < 3 → σ i j = none) ∧ ∀ b, g i = some b → B + 3 ≤ b ∧ MapAt w b n (fK (σ i))) ∧ ∀ b, g 1 = some b → g 2 ≠ some b

theorem NodeInv.lt {B : Nat} {w : World} {n : Nat} {σ : Nat → Nat → Option (Int × Bool)} (h : NodeInv B w n σ) : B + 2 < w.heap.size := World.block_lt_of_cell? w ⟨B + 2, 16, none⟩ h.vals

/-- It stands behind whatever only lays new blocks. -/
theorem NodeInv.later {B : Nat} {w w' : World} {n : Nat} {σ : Nat → Nat → Option (Int × Bool)} (h : NodeInv B w n σ) (hb : Below w.heap.size w w') : NodeInv B w' n σ := by
  have hlt := h.lt
  obtain ⟨g, h1, h2, h3⟩ := h.inner
  refine ⟨(hb.cell (p := ⟨B + 2, 16, none⟩) hlt).trans h.vals, (hb.cell (p := ⟨B + 2, 17, none⟩) hlt).trans h.mems, h.mv.block (hb.block _ (by omega)), g, h1.block (hb.block _ (by omega)), fun i hi1 hi2 => ⟨(h2 i hi1 hi2).1, fun b hg => ?_⟩, h3⟩
  obtain ⟨ha, hm⟩ := (h2 i hi1 hi2).2 b hg
  exact ⟨ha, hm.block (hb.block _ hm.lt)⟩

theorem NodeInv.mono {B : Nat} {w : World} {n n' : Nat} {σ : Nat → Nat → Option (Int × Bool)} (h : NodeInv B w n σ) (hn : n ≤ n') : NodeInv B w n' σ := by
  obtain ⟨g, h1, h2, h3⟩ := h.inner
  exact ⟨h.vals, h.mems, h.mv.mono hn, g, h1.mono hn, fun i hi1 hi2 => ⟨(h2 i hi1 hi2).1, fun b hg => ⟨((h2 i hi1 hi2).2 b hg).1, ((h2 i hi1 hi2).2 b hg).2.mono hn⟩⟩, h3⟩

/-- The map of the values has turned. -/
theorem NodeInv.turnVals {B : Nat} {w w' : World} {n n' : Nat} {σ : Nat → Nat → Option (Int × Bool)} (h : NodeInv B w n σ) (hn : n ≤ n') (ht : w.mapTurned w' B) {τ : Nat → Option (Int × Bool)} (hm : MapAt w' B n' (fK τ)) : NodeInv B w' n' (updN σ 0 τ) := by
  have hlt := h.lt
  obtain ⟨g, h1, h2, h3⟩ := h.inner
  have hN : w'.heap[B + 2]? = w.heap[B + 2]? := turned_other ht hlt (by omega)
  refine ⟨(World.cell?_of_block (w := w) (a := ⟨B + 2, 16, none⟩) hN).trans h.vals, (World.cell?_of_block (w := w) (a := ⟨B + 2, 17, none⟩) hN).trans h.mems, by simpa [updN] using hm, g, (h1.mono hn).block (turned_other ht h1.lt (by omega)), fun i hi1 hi2 => ?_, h3⟩
  have e : updN σ 0 τ i = σ i := by unfold updN; rw [if_neg (by omega)]
  rw [e]
  exact ⟨(h2 i hi1 hi2).1, fun b hg => ⟨((h2 i hi1 hi2).2 b hg).1, (((h2 i hi1 hi2).2 b hg).2.mono hn).block (turned_other ht ((h2 i hi1 hi2).2 b hg).2.lt (by have := ((h2 i hi1 hi2).2 b hg).1; omega))⟩⟩

/-- The second half of 'NodeInv', its networks' blocks named. -/
def Inner (B : Nat) (w : World) (n : Nat) (σ : Nat → Nat → Option (Int × Bool)) (g : Nat → Option Nat) : Prop :=
  MapAt w (B + 1) n (fM g) ∧ (∀ i, 1 ≤ i → i ≤ 2 → (g i = none → ∀ j, j < 3 → σ i j = none) ∧ ∀ b, g i = some b → B + 3 ≤ b ∧ MapAt w b n (fK (σ i))) ∧ ∀ b, g 1 = some b → g 2 ≠ some b

theorem apart {g : Nat → Option Nat} (h : ∀ b, g 1 = some b → g 2 ≠ some b) {i i' b b' : Nat} (hi1 : 1 ≤ i) (hi2 : i ≤ 2) (hi1' : 1 ≤ i') (hi2' : i' ≤ 2) (hne : i' ≠ i) (hb : g i = some b) (hb' : g i' = some b') : b' ≠ b := by
  intro e
  subst e
  rcases two hi1 hi2 with rfl | rfl <;> rcases two hi1' hi2' with rfl | rfl
  · exact hne rfl
  · exact h _ hb hb'
  · exact h _ hb' hb
  · exact hne rfl

theorem fK_none {τ : Nat → Option (Int × Bool)} (h : ∀ j, j < 3 → τ j = none) (s : List UInt8) : fK τ s = none := by
  simp [fK, h 0 (by omega), h 1 (by omega), h 2 (by omega)]

/-- A network's map has turned. -/
theorem turnInner {B : Nat} {w w' : World} {n n' : Nat} {σ : Nat → Nat → Option (Int × Bool)} {g : Nat → Option Nat} (h : NodeInv B w n σ) (hI : Inner B w n σ g) (hn : n ≤ n') {i b : Nat} (hi1 : 1 ≤ i) (hi2 : i ≤ 2) (hg : g i = some b)
    (ht : w.mapTurned w' b) {τ : Nat → Option (Int × Bool)} (hm : MapAt w' b n' (fK τ)) : NodeInv B w' n' (updN σ i τ) := by
  have hlt := h.lt
  obtain ⟨h1, h2, h3⟩ := hI
  have hb3 := ((h2 i hi1 hi2).2 b hg).1
  have hN : w'.heap[B + 2]? = w.heap[B + 2]? := turned_other ht hlt (by omega)
  have e0 : updN σ i τ 0 = σ 0 := by unfold updN; rw [if_neg (by omega)]
  refine ⟨(World.cell?_of_block (w := w) (a := ⟨B + 2, 16, none⟩) hN).trans h.vals, (World.cell?_of_block (w := w) (a := ⟨B + 2, 17, none⟩) hN).trans h.mems, by rw [e0]; exact (h.mv.mono hn).block (turned_other ht h.mv.lt (by omega)), g, (h1.mono hn).block (turned_other ht h1.lt (by omega)), fun i' hi1' hi2' => ?_, h3⟩
  by_cases hii : i' = i
  · subst hii
    have e : updN σ i' τ i' = τ := by simp [updN]
    rw [e]
    refine ⟨fun hg' => absurd (hg'.symm.trans hg) (by simp), fun b' hb' => ?_⟩
    rw [hg] at hb'
    cases hb'
    exact ⟨hb3, hm⟩
  · have e : updN σ i τ i' = σ i' := by unfold updN; rw [if_neg hii]
    rw [e]
    exact ⟨(h2 i' hi1' hi2').1, fun b' hb' => ⟨((h2 i' hi1' hi2').2 b' hb').1, (((h2 i' hi1' hi2').2 b' hb').2.mono hn).block (turned_other ht ((h2 i' hi1' hi2').2 b' hb').2.lt (apart h3 hi1 hi2 hi1' hi2' hii hg hb'))⟩⟩

/-- The map of the networks has turned: network i stands at 'o' now. -/
theorem turnMem {B : Nat} {w w' : World} {n n' : Nat} {σ : Nat → Nat → Option (Int × Bool)} {g : Nat → Option Nat} (h : NodeInv B w n σ) (hI : Inner B w n σ g) (hn : n ≤ n') {i : Nat} (o : Option Nat) (hi1 : 1 ≤ i) (hi2 : i ≤ 2)
    (ht : w.mapTurned w' (B + 1)) (hm : MapAt w' (B + 1) n' (fM (updN g i o))) (hz : ∀ j, j < 3 → σ i j = none) (ho : ∀ b, o = some b → B + 3 ≤ b ∧ MapAt w b n (fun _ => none) ∧ ∀ i', 1 ≤ i' → i' ≤ 2 → g i' ≠ some b) :
    Inner B w' n' σ (updN g i o) ∧ NodeInv B w' n' σ := by
  have hlt := h.lt
  obtain ⟨h1, h2, h3⟩ := hI
  have hN : w'.heap[B + 2]? = w.heap[B + 2]? := turned_other ht hlt (by omega)
  have key : Inner B w' n' σ (updN g i o) := by
    refine ⟨hm, fun i' hi1' hi2' => ?_, fun b hb1 hb2 => ?_⟩
    · by_cases hii : i' = i
      · subst hii
        have e : updN g i' o i' = o := by simp [updN]
        rw [e]
        refine ⟨fun _ => hz, fun b hb => ?_⟩
        obtain ⟨ha, hmb, _⟩ := ho b hb
        exact ⟨ha, ((hmb.mono hn).block (turned_other ht hmb.lt (by omega))).congr (fun s => (fK_none hz s).symm)⟩
      · have e : updN g i o i' = g i' := by unfold updN; rw [if_neg hii]
        rw [e]
        exact ⟨(h2 i' hi1' hi2').1, fun b hb => ⟨((h2 i' hi1' hi2').2 b hb).1, (((h2 i' hi1' hi2').2 b hb).2.mono hn).block (turned_other ht ((h2 i' hi1' hi2').2 b hb).2.lt (by have := ((h2 i' hi1' hi2').2 b hb).1; omega))⟩⟩
    · rcases two hi1 hi2 with rfl | rfl
      · have e1 : updN g 1 o 1 = o := by simp [updN]
        have e2 : updN g 1 o 2 = g 2 := by simp [updN]
        rw [e1] at hb1
        rw [e2] at hb2
        exact (ho b hb1).2.2 2 (by omega) (by omega) hb2
      · have e1 : updN g 2 o 1 = g 1 := by simp [updN]
        have e2 : updN g 2 o 2 = o := by simp [updN]
        rw [e1] at hb1
        rw [e2] at hb2
        exact (ho b hb2).2.2 1 (by omega) (by omega) hb1
  exact ⟨key, (World.cell?_of_block (w := w) (a := ⟨B + 2, 16, none⟩) hN).trans h.vals, (World.cell?_of_block (w := w) (a := ⟨B + 2, 17, none⟩) hN).trans h.mems, (h.mv.mono hn).block (turned_other ht h.mv.lt (by omega)), _, key⟩

theorem Inner.later {B : Nat} {w w' : World} {n : Nat} {σ : Nat → Nat → Option (Int × Bool)} {g : Nat → Option Nat} (h : Inner B w n σ g) (hb : Below w.heap.size w w') : Inner B w' n σ g :=
  ⟨h.1.block (hb.block _ h.1.lt), fun i hi1 hi2 => ⟨(h.2.1 i hi1 hi2).1, fun b hg => ⟨((h.2.1 i hi1 hi2).2 b hg).1, ((h.2.1 i hi1 hi2).2 b hg).2.block (hb.block _ ((h.2.1 i hi1 hi2).2 b hg).2.lt)⟩⟩, h.2.2⟩

end C
end Go.Proofs.Ybulkavii
