/-
  Seat b2335a, law BFlips: the plain law: a row of bytes and the same row with one bit turned part at that very bit.
-/
import Derived.Test.YbulkaviiBits
namespace Go.Proofs.Ybulkavii
open Go.RowKit

/-- The row with bit s turned (s below 160), or the row itself. -/
def flip (self : List Int) (s : Int) : List Int :=
  if s = 160 then self else self.set (19 - s / 8).toNat (bits .xor .u8 (self.getD (19 - s / 8).toNat 0) (2 ^ (s % 8).toNat))

theorem flip_len (self : List Int) (s : Int) : (flip self s).length = self.length := by
  unfold flip; split <;> simp

theorem xor_self (x : Int) (h0 : 0 ≤ x) (h1 : x ≤ 255) : bits .xor .u8 x x = 0 := by
  rw [u8_xor x x h0 (by omega) h0 (by omega)]; simp

theorem xor_back (x y : Int) (h0 : 0 ≤ x) (h1 : x ≤ 255) (h2 : 0 ≤ y) (h3 : y ≤ 255) : bits .xor .u8 x (bits .xor .u8 x y) = y := by
  have hr := bits_u8_range .xor x y
  rw [u8_xor x (bits .xor .u8 x y) h0 (by omega) hr.1 (by omega), u8_xor x y h0 (by omega) h2 (by omega)]
  simp only [Int.toNat_natCast]
  rw [← Nat.xor_assoc, Nat.xor_self, Nat.zero_xor]
  omega

theorem hb_self : ∀ a : List Int, (∀ x ∈ a, 0 ≤ x ∧ x ≤ 255) → hb a a = -1
  | [], _ => by rw [hb.eq_def]
  | x :: a, h => by
    have hx := h x (by simp)
    rw [hb, if_pos (xor_self x hx.1 hx.2)]
    exact hb_self a (fun y hy => h y (by simp [hy]))

theorem pow2_range (m : Nat) (h : m < 8) : (0 : Int) < 2 ^ m ∧ (2 : Int) ^ m ≤ 255 ∧ (Lib.bitLen ((2 : Int) ^ m).toNat : Int) = m + 1 := by
  match m, h with
  | 0, _ => decide
  | 1, _ => decide
  | 2, _ => decide
  | 3, _ => decide
  | 4, _ => decide
  | 5, _ => decide
  | 6, _ => decide
  | 7, _ => decide

theorem hb_set (m : Nat) (hm : m < 8) : ∀ (a : List Int) (j : Nat), (∀ x ∈ a, 0 ≤ x ∧ x ≤ 255) → j < a.length →
    hb a (a.set j (bits .xor .u8 (a.getD j 0) (2 ^ m))) = 8 * ((a.length - 1 - j : Nat) : Int) + m
  | [], _, _, h => by simp at h
  | x :: a, 0, h, _ => by
    have hx := h x (by simp)
    obtain ⟨p0, p1, p2⟩ := pow2_range m hm
    simp only [List.set_cons_zero, List.getD_cons_zero]
    rw [hb, xor_back x _ hx.1 hx.2 (by omega) p1, if_neg (by omega), p2]
    simp
    omega
  | x :: a, j + 1, h, hj => by
    have hx := h x (by simp)
    simp only [List.set_cons_succ, List.getD_cons_succ]
    rw [hb, if_pos (xor_self x hx.1 hx.2), hb_set m hm a j (fun y hy => h y (by simp [hy])) (by simpa using hj)]
    simp
    omega

theorem hb_flip (self : List Int) (s : Int) (hl : self.length = 20) (hx : ∀ x ∈ self, 0 ≤ x ∧ x ≤ 255) (h0 : 0 ≤ s) (h1 : s ≤ 160) : hb self (flip self s) = if s = 160 then -1 else s := by
  unfold flip
  split
  · exact hb_self self hx
  · rw [hb_set (s % 8).toNat (by omega) self _ hx (by omega), hl]
    omega

end Go.Proofs.Ybulkavii
