/-
  Seat b2335a: opening an argument that is an array of integers, by value; what a slice of integers gives a walk.
-/
import Derived.ProofKit
import Derived.OpenShut
import Derived.Below
namespace Go.Proofs.Ybulkavii
open Go.ChangeShapes Go.WideShapes Go.ChangeAt Go.RowKit

section
variable {H : Type} {enc : TypeId × Value → H} {P : Program} {w : World} {base : Nat} {spare : Nat → Bool} {held : Bool}

theorem okWide_array {r : Reach} {b0 : Nat} {t : TypeId} {v : Value} {n : Nat} {e : TypeId} (ht : P.underlying t = some (.array n e)) (h : Value.okWide P w r b0 t v) : ∃ cs, v = .agg cs ∧ cs.size = P.cellsOf t := by
  simp only [Value.okWide, ht] at h
  obtain ⟨cs, h1, h2, _⟩ := h
  exact ⟨cs, h1, h2⟩

/-- The cells of an array of integers. -/
theorem cells_ints {t e : TypeId} {n : Nat} {k : IntKind} (ht : P.underlying t = some (.array n e)) (he : P.underlying e = some (.int k)) (hce : P.cellsOf e = 1) {fuel : Nat} {cs : List Value} {x : DataW H × List MemPlace} (hl : cs.length = n)
    (h : DataW.trod enc P w base spare held fuel t cs = some x) : ∃ zs : List Int, zs.length = n ∧ cs = zs.map (Value.int k) ∧ ∀ z ∈ zs, (Lit.int k z).wf = true := by
  obtain ⟨xs, m, _, _, _, hxl, hx⟩ := DataW.trod_array ht h
  have key : ∀ i (hi : i < n), ∃ z, cs[i]? = some (.int k z) ∧ (Lit.int k z).wf = true := fun i hi => by
    have h1 := hx i hi
    rw [hce, Nat.mul_one, List.getElem?_eq_getElem (by omega)] at h1
    obtain ⟨z, hz, _, hw⟩ := DataW.trod_int he h1
    refine ⟨z, ?_, hw⟩
    have : ((cs.drop i).take 1)[0]? = some (.int k z) := by rw [hz]; rfl
    simpa using this
  refine ⟨cs.map intOf, by simp [hl], ?_, ?_⟩
  · apply List.ext_getElem?
    intro i
    by_cases hi : i < n
    · obtain ⟨z, hz, _⟩ := key i hi
      simp [hz, intOf]
    · rw [List.getElem?_eq_none (by omega), List.getElem?_eq_none (by simp; omega)]
  · intro z hz
    obtain ⟨c, hc, rfl⟩ := List.mem_map.1 hz
    obtain ⟨i, hi, rfl⟩ := List.mem_iff_getElem.1 hc
    obtain ⟨z, hz, hw⟩ := key i (by omega)
    rw [List.getElem?_eq_getElem hi] at hz
    injection hz with hz
    rw [hz]
    exact hw

theorem open_arr {r : Reach} {b0 : Nat} {t e : TypeId} {n : Nat} {k : IntKind} {v : Value} {d : DataW H} {p : List MemPlace} (ht : P.underlying t = some (.array n e)) (he : P.underlying e = some (.int k)) (hce : P.cellsOf e = 1) (hct : P.cellsOf t = n)
    (hv : Value.okWide P w r b0 t v) (h : DataW.Trod enc P w base spare held t v d p) : ∃ zs : List Int, zs.length = n ∧ v = .agg (zs.map (Value.int k)).toArray ∧ ∀ z ∈ zs, (Lit.int k z).wf = true := by
  obtain ⟨cs, rfl, hs⟩ := okWide_array ht hv
  obtain ⟨fuel, hf⟩ := h
  simp only [Value.cells] at hf
  obtain ⟨zs, hl, he', hw⟩ := cells_ints ht he hce (by simpa [hct] using hs) hf
  refine ⟨zs, hl, ?_, hw⟩
  rw [← he']
end

/-- WHAT THE WALK IS TOLD OF A SLICE OF INTEGERS THAT CAME IN. -/
def IsRow (k : IntKind) (w : World) (a : Option Addr) (len cap : Nat) (zs : List Int) : Prop :=
  (a = none ∧ len = 0 ∧ cap = 0 ∧ zs = []) ∨
  ∃ x, a = some x ∧ len ≤ cap ∧ cap ≤ maxLen ∧ zs.length = cap ∧ (∀ i, i < zs.length → w.cell? (x.add i) = some (.int k (zs.getD i 0))) ∧ ∀ n ∈ zs, (Lit.int k n).wf = true

theorem IsRow.at {k : IntKind} {w : World} {a : Option Addr} {len cap : Nat} {zs : List Int} (h : IsRow k w a len cap zs) (h0 : 0 < len) :
    ∃ b o, a = some ⟨b, o, none⟩ ∧ b < w.heap.size ∧ ∀ j, j < len → w.cell? ⟨b, o + j, none⟩ = some (.int k (zs.getD j 0)) := by
  rcases h with ⟨_, h1, _⟩ | ⟨⟨b, o, sp⟩, rfl, hl, _, hz, hc, _⟩
  · omega
  · have hspot : sp = none := by simpa [Addr.add] using World.cell?_spot (hc 0 (by omega))
    subst hspot
    have hc' : ∀ j, j < zs.length → w.cell? ⟨b, o + j, none⟩ = some (.int k (zs.getD j 0)) := fun j hj => by rw [← add_plain]; exact hc j hj
    exact ⟨b, o, rfl, World.block_lt_of_cell? w _ (hc' 0 (by omega)), fun j hj => hc' j (by omega)⟩

theorem IsRow.wf {k : IntKind} {w : World} {a : Option Addr} {len cap : Nat} {zs : List Int} (h : IsRow k w a len cap zs) (h0 : (Lit.int k 0).wf = true) (j : Nat) : (Lit.int k (zs.getD j 0)).wf = true := by
  rcases h with ⟨_, _, _, rfl⟩ | ⟨_, _, _, _, _, _, hw⟩
  · simpa [List.getD] using h0
  · by_cases hj : j < zs.length
    · have : zs.getD j 0 = zs[j] := by simp [List.getD, hj]
      rw [this]; exact hw _ (List.getElem_mem hj)
    · have : zs.getD j 0 = 0 := by simp [List.getD, hj]
      rw [this]; exact h0

end Go.Proofs.Ybulkavii
