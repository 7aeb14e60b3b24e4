/-
  Seat b2335a, laws B: the plain function that both Choose and the law's own loop compute: keep, in order, each index whose bucket has fewer than the limit kept so far.
-/
import Derived.WalkKit
namespace Go.Proofs.Ybulkavii
open Go.RowKit

def pick (lim : Int) (bs : Nat → Int) : Nat → List Int × List Int
  | 0 => (List.replicate 160 0, [])
  | k + 1 => if 0 ≤ bs k ∧ (pick lim bs k).1.getD (bs k).toNat 0 < lim then ((pick lim bs k).1.set (bs k).toNat ((pick lim bs k).1.getD (bs k).toNat 0 + 1), (pick lim bs k).2 ++ [(k : Int)]) else pick lim bs k

theorem pick_len (lim : Int) (bs : Nat → Int) : ∀ k, (pick lim bs k).1.length = 160
  | 0 => by simp [pick]
  | k + 1 => by
    have := pick_len lim bs k
    rw [pick]; split <;> simp [this]

theorem pick_bd (lim : Int) (bs : Nat → Int) : ∀ k j, 0 ≤ (pick lim bs k).1.getD j 0 ∧ (pick lim bs k).1.getD j 0 ≤ k
  | 0, j => by
    simp only [pick, List.getD, List.getElem?_replicate]
    split <;> simp
  | k + 1, j => by
    have h := pick_bd lim bs k j
    have h' := pick_bd lim bs k (bs k).toNat
    rw [pick]; split
    · simp only [List.getD, List.getElem?_set] at h h' ⊢
      split
      · split
        · simp; omega
        · simp; omega
      · omega
    · omega

theorem pick_out (lim : Int) (bs : Nat → Int) : ∀ k, (pick lim bs k).2.length ≤ k
  | 0 => by simp [pick]
  | k + 1 => by
    have := pick_out lim bs k
    rw [pick]; split <;> simp <;> omega

theorem pick_congr (lim : Int) (bs bs' : Nat → Int) : ∀ k, (∀ i, i < k → bs i = bs' i) → pick lim bs k = pick lim bs' k
  | 0, _ => rfl
  | k + 1, h => by
    rw [pick, pick, pick_congr lim bs bs' k (fun i hi => h i (by omega)), h k (by omega)]

theorem pick_yes {lim : Int} {bs : Nat → Int} {k : Nat} (h0 : 0 ≤ bs k) (h1 : (pick lim bs k).1.getD (bs k).toNat 0 < lim) :
    (pick lim bs (k + 1)).1 = (pick lim bs k).1.set (bs k).toNat ((pick lim bs k).1.getD (bs k).toNat 0 + 1) ∧ (pick lim bs (k + 1)).2 = (pick lim bs k).2 ++ [(k : Int)] := by
  rw [pick, if_pos ⟨h0, h1⟩]; exact ⟨rfl, rfl⟩
theorem pick_no {lim : Int} {bs : Nat → Int} {k : Nat} (h : ¬ (0 ≤ bs k ∧ (pick lim bs k).1.getD (bs k).toNat 0 < lim)) : pick lim bs (k + 1) = pick lim bs k := by
  rw [pick, if_neg h]

end Go.Proofs.Ybulkavii
