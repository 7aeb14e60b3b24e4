/-
  Seat b2335a, law CScript: the names; the contract of zzs2335cname (function 13).
-/
import Derived.Test.YbulkaviiProg
import Derived.WalkKit
import Derived.WalkSpells
import Derived.WalkLawsBesides
import Derived.BigRegion
namespace Go.Proofs.Ybulkavii
open Go.RowKit
namespace C

theorem hidden {p : Prop} (h : p) : Hid p := h

def netS : Nat → ByteArray
  | 0 => ⟨#[]⟩
  | 1 => ⟨#[110, 49]⟩
  | _ => ⟨#[110, 50]⟩
def keyS : Nat → ByteArray
  | 0 => ⟨#[97]⟩
  | 1 => ⟨#[98]⟩
  | _ => ⟨#[]⟩

/-- The cells of a name. -/
abbrev nameV (i j : Nat) : Value := .agg #[.string (netS i), .string (keyS j)]

theorem nets_get (i : Int) (h0 : 0 ≤ i) (h1 : i < 3) : (#[Value.string ⟨#[]⟩, .string ⟨#[110, 49]⟩, .string ⟨#[110, 50]⟩] : Array Value)[i.toNat]? = some (.string (netS i.toNat)) := by
  rcases (show i = 0 ∨ i = 1 ∨ i = 2 by omega) with rfl | rfl | rfl <;> rfl
theorem keys_get (i : Int) (h0 : 0 ≤ i) (h1 : i < 3) : (#[Value.string ⟨#[97]⟩, .string ⟨#[98]⟩, .string ⟨#[]⟩] : Array Value)[i.toNat]? = some (.string (keyS i.toNat)) := by
  rcases (show i = 0 ∨ i = 1 ∨ i = 2 by omega) with rfl | rfl | rfl <;> rfl

set_option maxHeartbeats 400000 in
theorem name_any (net key : Int) (w : World) (h0 : 0 ≤ net) (h1 : net ≤ 255) (h2 : 0 ≤ key) (h3 : key ≤ 255) :
    Calls Yba.prog 13 #[.int .u8 net, .int .u8 key] w fun e w' => e = .returned (nameV (net % 3).toNat (key % 3).toNat) ∧ Below w.heap.size w w' := by
  have hn := nets_get (net % 3) (by omega) (by omega)
  have hk := keys_get (key % 3) (by omega) (by omega)
  show Calls Yba.prog 13 _ w fun e w' => e = .returned (.agg #[.string (netS (net % 3).toNat), .string (keyS (key % 3).toNat)]) ∧ Below w.heap.size w w'
  generalize netS (net % 3).toNat = s1 at hn ⊢
  generalize keyS (key % 3).toNat = s2 at hk ⊢
  have hc1 : (((w.alloc (Obj.cells #[Value.string { data := #[] }, Value.string { data := #[] }] 82)).alloc (Obj.cells #[Value.string { data := #[] }, Value.string { data := #[110, 49] }, Value.string { data := #[110, 50] }] 108)).alloc
      (Obj.cells #[Value.string { data := #[97] }, Value.string { data := #[98] }, Value.string { data := #[] }] 108)).cell? ⟨w.heap.size + 1, (net % 3).toNat, none⟩ = some (.string s1) := by
    rw [World.cell?_alloc_lt _ _ _ (by simp), cell_of_row _ _ _ _ _ _ (heap_alloc2_new _ _ _), hn]
  have hc2 : (((w.alloc (Obj.cells #[Value.string { data := #[] }, Value.string { data := #[] }] 82)).alloc (Obj.cells #[Value.string { data := #[] }, Value.string { data := #[110, 49] }, Value.string { data := #[110, 50] }] 108)).alloc
      (Obj.cells #[Value.string { data := #[97] }, Value.string { data := #[98] }, Value.string { data := #[] }] 108)).cell? ⟨w.heap.size + 1 + 1, (key % 3).toNat, none⟩ = some (.string s2) := by
    have e : ((w.alloc (Obj.cells #[Value.string { data := #[] }, Value.string { data := #[] }] 82)).alloc (Obj.cells #[Value.string { data := #[] }, Value.string { data := #[110, 49] }, Value.string { data := #[110, 50] }] 108)).heap.size = w.heap.size + 1 + 1 := by simp
    rw [← e, cell_of_row _ _ _ _ _ _ (heap_alloc_new _ _), hk]
  clear hn hk
  go_enter Yba.func13, Yba.ntmps13
  go_wp2
  go_region
  all_goals
    go_wp2
    refine bodyPost_ret (v := .agg #[.string s1, .string s2]) (by simp [results, Yba.results13, go_sem]) rfl ⟨rfl, ?_⟩
    repeat (first | exact Below.refl _ _ | (refine Below.drew ?_) | (refine Below.alloc ?_ (by simp; try omega) _) | (refine Below.setCell ?_ (by simp) _))
end C
end Go.Proofs.Ybulkavii
