/-
  Seat b2335a: contracts of the leaves: math/bits.Len8 (function 37), highBit (26).
-/
import Derived.Test.YbulkaviiProg
import Derived.WalkKit
import Derived.WalkSpells
import Derived.WalkLawsBesides
import Derived.Lib.Strings
import Derived.Lib.Slices
import Derived.Lib.Small
import Derived.Lib.Walk
import Derived.Lib.BitFns
import Derived.Deep.QuietTactic
import Derived.BigQuiet
namespace Go.Proofs.Ybulkavii
open Go.RowKit

theorem hidden {p : Prop} (h : p) : Hid p := h
theorem ret_int {k : IntKind} {a b : Int} (h : a = b) : Ending.returned (.int k a) = .returned (.int k b) := by rw [h]

theorem len8_wrap (x : Int) (h0 : 0 ≤ x) (h1 : x ≤ 255) : wrap64 (Lib.len8 x) = (Lib.bitLen x.toNat : Int) := by
  have h := Lib.len8_int x h0 h1
  unfold wrap64
  exact h

set_option maxHeartbeats 400000 in
theorem len8_any (x : Int) (w : World) (h0 : 0 ≤ x) (h1 : x ≤ 255) :
    Calls Yba.prog 37 #[.int .u8 x] w fun e w' => e = .returned (.int .i64 (Lib.bitLen x.toNat)) ∧ w' = w := by
  have H : Hid (wrap64 (Lib.len8 x) = (Lib.bitLen x.toNat : Int)) := len8_wrap x h0 h1
  go_enter Yba.func37, Yba.ntmps37
  go_wp2
  go_ret
  exact ⟨ret_int H.out, rfl⟩

/-- The highest bit in which two rows of bytes differ: by the first place at which they do. -/
def hb : List Int → List Int → Int
  | x :: a, y :: b => if bits .xor .u8 x y = 0 then hb a b else 8 * (a.length : Int) + (Lib.bitLen (bits .xor .u8 x y).toNat : Int) - 1
  | _, _ => -1

theorem bits_u8_range (o : BinOp) (x y : Int) : 0 ≤ bits o .u8 x y ∧ bits o .u8 x y ≤ 255 := by
  have : ∀ n : Int, 0 ≤ IntKind.u8.wrap n ∧ IntKind.u8.wrap n ≤ 255 := fun n => by rw [IntKind.wrap_u8]; omega
  unfold bits
  exact this _

/-- A row of bytes as cells. -/
abbrev bcells (a : List Int) : Array Value := (a.map (Value.int .u8)).toArray


theorem hb_drop_step {a b : List Int} {k : Nat} (ha : a.length = 20) (hb' : b.length = 20) (hk : k < 20) :
    hb (a.drop k) (b.drop k) = if bits .xor .u8 (a.getD k 0) (b.getD k 0) = 0 then hb (a.drop (k + 1)) (b.drop (k + 1)) else 8 * ((19 - k : Nat) : Int) + (Lib.bitLen (bits .xor .u8 (a.getD k 0) (b.getD k 0)).toNat : Int) - 1 := by
  have h1 : k < a.length := by omega
  have h2 : k < b.length := by omega
  rw [List.drop_eq_getElem_cons h1, List.drop_eq_getElem_cons h2, hb]
  have e1 : a.getD k 0 = a[k] := by simp [List.getD, h1]
  have e2 : b.getD k 0 = b[k] := by simp [List.getD, h2]
  rw [e1, e2]
  have e3 : (a.drop (k + 1)).length = 19 - k := by simp; omega
  rw [e3]

theorem bcells_get (a : List Int) (j : Nat) (h : j < a.length) : (bcells a)[j]? = some (.int .u8 (a.getD j 0)) := by
  simp [bcells, List.getD, h]

theorem box2_first (w : World) (A B : Array Value) (t u : TypeId) (j : Nat) : ((w.alloc (.cells A t)).alloc (.cells B u)).cell? ⟨w.heap.size, j, none⟩ = A[j]? := by
  rw [cell_of_row _ _ _ A t (0, 0) (heap_alloc2_old w _ _)]
theorem box2_second (w : World) (A B : Array Value) (t u : TypeId) (j : Nat) : ((w.alloc (.cells A t)).alloc (.cells B u)).cell? ⟨w.heap.size + 1, j, none⟩ = B[j]? := by
  rw [cell_of_row _ _ _ B u (0, 0) (heap_alloc2_new w _ _)]
theorem below2 (w : World) (o p : Obj) : Below w.heap.size w ((w.alloc o).alloc p) := ((Below.refl _ _).alloc (Nat.le_refl _) _).alloc (by simp) _

theorem hb_zero {a b : List Int} {k : Nat} {x y : Int} (ha : a.length = 20) (hb' : b.length = 20) (hk : k < 20) (hx : Hid (x = a.getD k 0)) (hy : Hid (y = b.getD k 0)) (H : Hid (hb (a.drop k) (b.drop k) = hb a b))
    (hd : bits .xor .u8 x y = 0) : Hid (hb (a.drop (k + 1)) (b.drop (k + 1)) = hb a b) := by
  show _ = _
  rw [← H.out, hb_drop_step ha hb' hk, ← hx.out, ← hy.out, if_pos hd]
theorem hb_hit {a b : List Int} {k : Nat} {x y : Int} (ha : a.length = 20) (hb' : b.length = 20) (hk : k < 20) (hx : Hid (x = a.getD k 0)) (hy : Hid (y = b.getD k 0)) (H : Hid (hb (a.drop k) (b.drop k) = hb a b))
    (hd : ¬ bits .xor .u8 x y = 0) : 8 * (19 - (k : Int)) + (Lib.bitLen (bits .xor .u8 x y).toNat : Int) - 1 = hb a b := by
  rw [← H.out, hb_drop_step ha hb' hk, ← hx.out, ← hy.out, if_neg hd]
  omega
theorem hb_end {a b : List Int} (ha : a.length = 20) (H : Hid (hb (a.drop 20) (b.drop 20) = hb a b)) : -1 = hb a b := by
  rw [← H.out, List.drop_of_length_le (by omega), hb.eq_def]
theorem bitLen_u8 (x : Int) (h0 : 0 ≤ x) (h1 : x ≤ 255) : Lib.bitLen x.toNat ≤ 8 := Lib.bitLen_le8 ⟨x.toNat, by omega⟩

set_option maxHeartbeats 400000 in
theorem highBit_any (a b : List Int) (w : World) (ha : a.length = 20) (hb' : b.length = 20) :
    Calls Yba.prog 26 #[.agg (bcells a), .agg (bcells b)] w fun e w' => e = .returned (.int .i64 (hb a b)) ∧ Below w.heap.size w w' := by
  go_enter Yba.func26, Yba.ntmps26
  go_wp2
  go_loopw [7] (fun i wr => ∃ k : Nat, k ≤ 20 ∧ i = .int .i64 k ∧ Hid (hb (a.drop k) (b.drop k) = hb a b) ∧ (∀ j, j < 20 → wr.cell? ⟨w.heap.size, j, none⟩ = some (.int .u8 (a.getD j 0))) ∧ (∀ j, j < 20 → wr.cell? ⟨w.heap.size + 1, j, none⟩ = some (.int .u8 (b.getD j 0))) ∧ Below w.heap.size w wr)
    (fun i _ => 20 - (intOf i).toNat)
  case atStart =>
    exact ⟨0, by omega, rfl, rfl, fun j hj => by rw [box2_first, bcells_get _ _ (by omega)], fun j hj => by rw [box2_second, bcells_get _ _ (by omega)], below2 _ _ _⟩
  case round =>
    obtain ⟨k, hk, rfl, H, hca, hcb, hnx⟩ := hrel
    by_cases hlt : k < 20
    · obtain ⟨x, hx⟩ : ∃ x, Hid (x = a.getD k 0) := ⟨_, rfl⟩
      obtain ⟨y, hy⟩ : ∃ y, Hid (y = b.getD k 0) := ⟨_, rfl⟩
      have c1 : wr.cell? ⟨w.heap.size, k, none⟩ = some (.int .u8 x) := by rw [hx.out]; exact hca k hlt
      have c2 : wr.cell? ⟨w.heap.size + 1, k, none⟩ = some (.int .u8 y) := by rw [hy.out]; exact hcb k hlt
      have HA := hidden (And.intro hca hcb)
      clear hca hcb
      have hI : (k : Int) < 20 := by omega
      have hr := bits_u8_range .xor x y
      have hl := bitLen_u8 _ hr.1 hr.2
      by_cases hd : bits .xor .u8 x y = 0
      · have hd' : (bits .xor .u8 x y != 0) = false := by simp [hd]
        have H2 := hb_zero ha hb' hlt hx hy H hd
        clear hd H
        go_wp2
        go_quiet (fail)
        go_wp2
        go_roundw
        case rel => exact ⟨k + 1, by omega, by go_num, H2, HA.out.1, HA.out.2, below_drewN hnx _⟩
        case measure => simp [intOf]; omega
      · have hd' : (bits .xor .u8 x y != 0) = true := by simp [hd]
        have H2 : Hid _ := hb_hit ha hb' hlt hx hy H hd
        clear hd H
        go_wp2
        go_quiet (fail)
        go_wp2_with (go_at_call 37; refine (len8_any _ _ hr.1 hr.2).mono ?_; rintro e w' ⟨rfl, rfl⟩)
        go_ret
        exact ⟨ret_int H2.out, by first | exact hnx | exact below_drewN hnx _⟩
    · obtain rfl : k = 20 := by omega
      have H2 : Hid _ := hb_end ha H
      clear H
      go_wp2
      go_ret
      exact ⟨ret_int H2.out, by first | exact hnx | exact below_drewN hnx _⟩

end Go.Proofs.Ybulkavii
