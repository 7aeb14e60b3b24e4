/-
  Seat b2336a, law BLastPut: what the ring holds after i puts; one put more.
-/
import Derived.Test.YbulkaviwLast
namespace Go.Proofs.Ybulkaviw
open Go.RowKit

theorem mod_unique {a b n s : Nat} (ha : a < n) (hb : b < n) (ha2 : n ≤ a + s) (hb2 : n ≤ b + s) (h : a % s = b % s) : a = b := by
  rcases Nat.lt_trichotomy a b with hlt | h0 | hlt
  · have h1 : (b - a) % s = 0 := Nat.sub_mod_eq_zero_of_mod_eq h.symm
    rw [Nat.mod_eq_of_lt (by omega)] at h1
    omega
  · exact h0
  · have h1 : (a - b) % s = 0 := Nat.sub_mod_eq_zero_of_mod_eq h
    rw [Nat.mod_eq_of_lt (by omega)] at h1
    omega

/-- Place p (of m) holds the ordinal S p: the greatest below n that is p modulo sz. -/
def Held (n sz m : Nat) (vals : List Int) (S : Nat → Nat) (xs : List Value) : Prop :=
  ∀ p, p < m → S p < n ∧ S p % sz = p ∧ n ≤ S p + sz ∧ xs[p * 2]? = some (.int .i64 (S p)) ∧ xs[p * 2 + 1]? = some (.int .i8 (vals.getD (S p) 0))

theorem Held.room {i sz : Nat} {vals : List Int} {S : Nat → Nat} {xs : List Value} (h : Held i sz i vals S xs) (hl : xs.length = i * 2) (hi : i < sz) :
    Held (i + 1) sz (i + 1) vals (fun p => if p = i then i else S p) (xs ++ [.int .i64 i, .int .i8 (vals.getD i 0)]) := by
  intro p hp
  by_cases hpi : p = i
  · subst hpi
    refine ⟨by simp, by simp [Nat.mod_eq_of_lt hi], by simp; omega, ?_, ?_⟩
    · rw [List.getElem?_append_right (by omega)]; simp [hl]
    · rw [List.getElem?_append_right (by omega)]; simp [hl]
  · obtain ⟨h1, h2, h3, h4, h5⟩ := h p (by omega)
    simp only [hpi, if_false]
    refine ⟨by omega, h2, by omega, ?_, ?_⟩
    · rw [List.getElem?_append_left (by omega)]; exact h4
    · rw [List.getElem?_append_left (by omega)]; exact h5

theorem Held.full {i sz : Nat} {vals : List Int} {S : Nat → Nat} {xs : List Value} (h : Held i sz sz vals S xs) (hl : xs.length = sz * 2) (h0 : 0 < sz) :
    Held (i + 1) sz sz vals (fun p => if p = i % sz then i else S p) ((xs.set (i % sz * 2) (.int .i64 i)).set (i % sz * 2 + 1) (.int .i8 (vals.getD i 0))) := by
  intro p hp
  have hm : i % sz < sz := Nat.mod_lt _ h0
  by_cases hpi : p = i % sz
  · subst hpi
    simp only [if_true]
    refine ⟨by omega, trivial, by omega, ?_, ?_⟩
    · rw [List.getElem?_set_ne (by omega), List.getElem?_set_self (by omega)]
    · rw [List.getElem?_set_self (by simp; omega)]
  · obtain ⟨h1, h2, h3, h4, h5⟩ := h p hp
    simp only [hpi, if_false]
    refine ⟨by omega, h2, ?_, ?_, ?_⟩
    · rcases Nat.lt_or_ge i (S p + sz) with hlt | hge
      · omega
      · exfalso
        have : i = S p + sz := by omega
        rw [this, Nat.add_mod_right] at hpi
        exact hpi h2.symm
    · rw [List.getElem?_set_ne (by omega), List.getElem?_set_ne (by omega)]; exact h4
    · rw [List.getElem?_set_ne (by omega), List.getElem?_set_ne (by omega)]; exact h5

def nextOf (i sz : Nat) : Nat := if i < sz then 0 else i % sz

/-- The ring after i puts. -/
def RingRel (R i sz : Nat) (vals : List Int) (w : World) : Prop :=
  ∃ held xs S, w.heap[R]? = some (.cells #[held, .int .i64 (nextOf i sz : Nat)] 43) ∧ w.ownsRow (R + 1) 46 2 held (min i sz) xs ∧ Held i sz (min i sz) vals S xs

theorem put_step (R i sz : Nat) (vals : List Int) (w : World) (h : RingRel R i sz vals w) (h0 : 0 < sz) (hsz : sz ≤ 16) :
    Calls Yba.prog 7 #[.pointer (some ⟨R, 0, none⟩), .agg #[.int .i64 i, .int .i8 (vals.getD i 0)], .int .i64 sz] w fun e w' => e = .returned (.tuple #[]) ∧ RingRel R (i + 1) sz vals w' ∧ Below R w w' := by
  obtain ⟨held, xs, S, hR, hown, hH⟩ := h
  by_cases hi : i < sz
  · rw [show min i sz = i by omega] at hown hH
    refine (put_room R i sz held _ i (vals.getD i 0) xs w hR hown hi hsz).mono ?_
    rintro e w' ⟨rfl, g, cap, h1, h2, h3⟩
    refine ⟨rfl, ⟨.slice (some ⟨g, 0, none⟩) (i + 1) cap, xs ++ [.int .i64 i, .int .i8 (vals.getD i 0)], fun p => if p = i then i else S p, ?_, ?_⟩, h3⟩
    · rw [h1]
      have : nextOf i sz = nextOf (i + 1) sz := by
        unfold nextOf
        rw [if_pos hi]
        split
        · rfl
        · have : i + 1 = sz := by omega
          rw [this, Nat.mod_self]
      rw [this]
    · rw [show min (i + 1) sz = i + 1 by omega]
      exact ⟨h2, hH.room hown.1 hi⟩
  · rw [show min i sz = sz by omega] at hown hH
    obtain ⟨g, cap, hg⟩ : ∃ g cap, held = .slice (some ⟨g, 0, none⟩) sz cap := by
      rcases hown.2 with ⟨_, hz⟩ | ⟨g, cap, _, hv, _⟩
      · omega
      · exact ⟨g, cap, hv⟩
    subst hg
    rw [show nextOf i sz = i % sz by simp [nextOf, hi]] at hR
    refine (put_full R g cap (i % sz) sz i (vals.getD i 0) xs w hR hown (Nat.mod_lt _ h0) hsz).mono ?_
    rintro e w' ⟨rfl, h1, h2, h3⟩
    refine ⟨rfl, ⟨.slice (some ⟨g, 0, none⟩) sz cap, (xs.set (i % sz * 2) (.int .i64 i)).set (i % sz * 2 + 1) (.int .i8 (vals.getD i 0)), fun p => if p = i % sz then i else S p, ?_, ?_⟩, h3⟩
    · rw [h1]
      have : (i % sz + 1) % sz = nextOf (i + 1) sz := by
        unfold nextOf
        rw [if_neg (by omega), Nat.mod_add_mod]
      rw [this]
    · rw [show min (i + 1) sz = sz by omega]
      exact ⟨h2, hH.full hown.1 h0⟩

/-- The place of the k-th newest. -/
theorem place (n sz : Nat) (vals : List Int) (S : Nat → Nat) (xs : List Value) (hH : Held n sz (min n sz) vals S xs) (h0 : 0 < sz) (k : Nat) (hk : k < min n sz) :
    (n - 1 - k) % sz < min n sz ∧ S ((n - 1 - k) % sz) = n - 1 - k ∧ ((nextOf n sz : Int) - 1 - k < 0 → (nextOf n sz : Int) - 1 - k + (min n sz : Nat) = (((n - 1 - k) % sz : Nat) : Int)) ∧ (¬ (nextOf n sz : Int) - 1 - k < 0 → (nextOf n sz : Int) - 1 - k = (((n - 1 - k) % sz : Nat) : Int)) := by
  have key : (n - 1 - k) % sz < min n sz ∧ ((nextOf n sz : Int) - 1 - k < 0 → (nextOf n sz : Int) - 1 - k + (min n sz : Nat) = (((n - 1 - k) % sz : Nat) : Int)) ∧ (¬ (nextOf n sz : Int) - 1 - k < 0 → (nextOf n sz : Int) - 1 - k = (((n - 1 - k) % sz : Nat) : Int)) := by
    by_cases hn : n < sz
    · have e1 : (n - 1 - k) % sz = n - 1 - k := Nat.mod_eq_of_lt (by omega)
      have e2 : nextOf n sz = 0 := by simp [nextOf, hn]
      rw [e1, e2, show min n sz = n by omega]
      refine ⟨by omega, fun _ => by omega, fun h => by omega⟩
    · have e2 : nextOf n sz = n % sz := by simp [nextOf, hn]
      have e3 : min n sz = sz := by omega
      have e4 := Nat.div_add_mod n sz
      have e5 : n % sz < sz := Nat.mod_lt _ h0
      have e6 : 1 ≤ n / sz := (Nat.one_le_div_iff h0).2 (by omega)
      rw [e2, e3]
      rw [e3] at hk
      refine ⟨Nat.mod_lt _ h0, fun h => ?_, fun h => ?_⟩
      · have e7 : n - 1 - k = sz * (n / sz - 1) + (n % sz + sz - 1 - k) := by
          rw [Nat.mul_sub, Nat.mul_one]
          have : sz ≤ sz * (n / sz) := Nat.le_mul_of_pos_right _ (by omega)
          omega
        have e8 : (n - 1 - k) % sz = n % sz + sz - 1 - k := by
          rw [e7, Nat.mul_add_mod]
          exact Nat.mod_eq_of_lt (by omega)
        rw [e8]
        omega
      · have e7 : n - 1 - k = sz * (n / sz) + (n % sz - 1 - k) := by omega
        have e8 : (n - 1 - k) % sz = n % sz - 1 - k := by
          rw [e7, Nat.mul_add_mod]
          exact Nat.mod_eq_of_lt (by omega)
        rw [e8]
        omega
  obtain ⟨k1, k2, k3⟩ := key
  refine ⟨k1, ?_, k2, k3⟩
  obtain ⟨s1, s2, s3, _⟩ := hH _ k1
  exact mod_unique s1 (by omega) s3 (by omega) s2

end Go.Proofs.Ybulkaviw
