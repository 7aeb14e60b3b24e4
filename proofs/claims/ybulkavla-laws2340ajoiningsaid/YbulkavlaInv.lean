/-
  Seat b2340a, law AJoining: the plain side: which events each process has; the memory behind i rounds of the first loop.
-/
import Derived.Test.YbulkavlaJoin
namespace Go.Proofs.Ybulkavla
open Go.RowKit

/-- The events of process p among the first i. -/
def evOf (pr : Nat → Nat) (p i : Nat) : List Int := ((List.range i).filter fun j => pr j == p).map fun (j : Nat) => (j : Int)

theorem evOf_succ_eq (pr : Nat → Nat) (i : Nat) : evOf pr (pr i) (i + 1) = evOf pr (pr i) i ++ [(i : Int)] := by
  simp [evOf, List.range_succ]
theorem evOf_succ_ne (pr : Nat → Nat) (p i : Nat) (h : pr i ≠ p) : evOf pr p (i + 1) = evOf pr p i := by
  simp [evOf, List.range_succ, h]
theorem evOf_len (pr : Nat → Nat) (p i : Nat) : (evOf pr p i).length ≤ i := by
  have := List.length_filter_le (fun j => pr j == p) (List.range i)
  simp [evOf]; simpa using this
theorem evOf_prefix (pr : Nat → Nat) (p i : Nat) : ∀ d, ∃ t, evOf pr p (i + d) = evOf pr p i ++ t
  | 0 => ⟨[], by simp⟩
  | d + 1 => by
    obtain ⟨t, ht⟩ := evOf_prefix pr p i d
    by_cases h : pr (i + d) = p
    · refine ⟨t ++ [((i + d : Nat) : Int)], ?_⟩
      subst h
      rw [show i + (d + 1) = (i + d) + 1 by omega, evOf_succ_eq, ht, List.append_assoc]
    · exact ⟨t, by rw [show i + (d + 1) = (i + d) + 1 by omega, evOf_succ_ne _ _ _ h, ht]⟩
/-- The event i stands, in its process's list, at the number of those before it. -/
theorem evOf_at (pr : Nat → Nat) (i n : Nat) (h : i < n) : (evOf pr (pr i) n)[(evOf pr (pr i) i).length]? = some (i : Int) := by
  obtain ⟨t, ht⟩ := evOf_prefix pr (pr i) (i + 1) (n - (i + 1))
  rw [show i + 1 + (n - (i + 1)) = n by omega] at ht
  rw [ht, evOf_succ_eq, List.append_assoc, List.getElem?_append_right (Nat.le_refl _)]
  simp

/-- The memory behind i rounds: the events' array E, the processes' lists P, the froms F. -/
structure Inv (B E P F kk n i : Nat) (pr : Nat → Nat) (fr : Nat → Int) (w : World) : Prop where
  ee : ∃ xs, w.ownsRow B 31 6 (.slice (some ⟨E, 0, none⟩) n n) n xs ∧ ∀ j, j < i → xs[j * 6 + 4]? = some (.int .i64 (fr j))
  ff : ∃ xs, w.ownsRow B 3 1 (.slice (some ⟨F, 0, none⟩) n n) n xs ∧ ∀ j, j < i → xs[j]? = some (.int .i64 (fr j))
  pp : ∃ xs, w.ownsRow B 25 1 (.slice (some ⟨P, 0, none⟩) kk kk) kk xs ∧
    (∀ p, p < kk → ∃ v, xs[p]? = some v ∧ w.ownsRow (F + 1) 3 1 v (evOf pr p i).length ((evOf pr p i).map (Value.int .i64))) ∧
    (∀ (p q : Nat) (v u : Value), p ≠ q → xs[p]? = some v → xs[q]? = some u → v.ownBlock = none ∨ v.ownBlock ≠ u.ownBlock)

theorem ne_of_lt_own {w : World} {base : Nat} {e : TypeId} {size : Nat} {v : Value} {n : Nat} {xs : List Value} (h : w.ownsRow base e size v n xs) {b : Nat} (hb : b < base) : v.ownBlock ≠ some b := fun h' => by
  have := (h.lt b h').1
  omega

/-- One round: the from is stored, the process's list grows by i, the event is stored. -/
theorem Inv.step {B E P F kk n i : Nat} {pr : Nat → Nat} {fr : Nat → Int} {w : World} (h : Inv B E P F kk n i pr fr w) (hi : i < n) (hp : pr i < kk) (hE : E < P) (hP : P < F)
    {v : Value} {xs : List Value} (hx : w.ownsRow B 25 1 (.slice (some ⟨P, 0, none⟩) kk kk) kk xs) (hv : xs[pr i]? = some v) (o o' : Obj) {w2 : World} {gg cap : Nat}
    (hown : w2.ownsRow (F + 1) 3 1 (.slice (some ⟨gg, 0, none⟩) ((evOf pr (pr i) i).length + 1) cap) ((evOf pr (pr i) i).length + 1) ((evOf pr (pr i) i).map (Value.int .i64) ++ [.int .i64 i]))
    (hgrow : (((w.setCell ⟨F, i, none⟩ (.int .i64 (fr i))).alloc o).alloc o').grownBy w2 v.ownBlock) (hat : v.ownBlock = some gg ∨ gg = w.heap.size + 1 + 1) (x0 x1 x2 x3 x5 : Value) :
    Inv B E P F kk n (i + 1) pr fr (((((((w2.setCell ⟨P, pr i, none⟩ (.slice (some ⟨gg, 0, none⟩) ((evOf pr (pr i) i).length + 1) cap)).setCell ⟨E, i * 6, none⟩ x0).setCell ⟨E, i * 6 + 1, none⟩ x1).setCell ⟨E, i * 6 + 2, none⟩ x2).setCell ⟨E, i * 6 + 3, none⟩ x3).setCell ⟨E, i * 6 + 4, none⟩ (.int .i64 (fr i))).setCell ⟨E, i * 6 + 5, none⟩ x5) := by
  obtain ⟨⟨es, he1, he2⟩, ⟨fs, hf1, hf2⟩, ⟨xs', hx1, hx2, hx3⟩⟩ := h
  obtain rfl : xs' = xs := by
    rcases hx.2 with ⟨h, _⟩ | ⟨g1, c1, u1, h1, _, h2, _, _, _, h3⟩
    · simp at h
    · rcases hx1.2 with ⟨h, _⟩ | ⟨g2, c2, u2, h4, _, h5, _, _, _, h6⟩
      · simp at h
      · cases h1; cases h4
        rw [h2] at h5
        cases h5
        rw [← h3, ← h6]
  obtain ⟨v', hv', hvo⟩ := hx2 (pr i) hp
  rw [hv] at hv'
  cases hv'
  have hrow : ∀ b, v.ownBlock = some b → F + 1 ≤ b ∧ b < w.heap.size := hvo.lt
  have hEr : some E ≠ v.ownBlock := fun h => by have := (hrow E h.symm).1; omega
  have hPr : some P ≠ v.ownBlock := fun h => by have := (hrow P h.symm).1; omega
  have hFr : some F ≠ v.ownBlock := fun h => by have := (hrow F h.symm).1; omega
  -- the three rows in w2
  have e2 : w2.ownsRow B 31 6 (.slice (some ⟨E, 0, none⟩) n n) n es := (((ownsRow_setCell_other he1 (a := ⟨F, i, none⟩) (by simp [Value.ownBlock]; omega) _).alloc _).alloc _).kept hgrow (.inr hEr)
  have f2 : w2.ownsRow B 3 1 (.slice (some ⟨F, 0, none⟩) n n) n (fs.set i (.int .i64 (fr i))) := (((hf1.stored i (.int .i64 (fr i))).1.alloc _).alloc _).kept hgrow (.inr hFr)
  have p2 : w2.ownsRow B 25 1 (.slice (some ⟨P, 0, none⟩) kk kk) kk xs' := (((ownsRow_setCell_other hx (a := ⟨F, i, none⟩) (by simp [Value.ownBlock]; omega) _).alloc _).alloc _).kept hgrow (.inr hPr)
  have hxl := hx.1
  have hel := he1.1
  have hfl := hf1.1
  have other : ∀ (W : World) (base : Nat) (e : TypeId) (size : Nat) (u : Value) (m : Nat) (ys : List Value) (y0 y1 y2 y3 y4 y5 : Value), W.ownsRow base e size u m ys → u.ownBlock ≠ some E →
      ((((((W.setCell ⟨E, i * 6, none⟩ y0).setCell ⟨E, i * 6 + 1, none⟩ y1).setCell ⟨E, i * 6 + 2, none⟩ y2).setCell ⟨E, i * 6 + 3, none⟩ y3).setCell ⟨E, i * 6 + 4, none⟩ y4).setCell ⟨E, i * 6 + 5, none⟩ y5).ownsRow base e size u m ys := fun W base e size u m ys y0 y1 y2 y3 y4 y5 h1 h2 =>
    ownsRow_setCell_other (ownsRow_setCell_other (ownsRow_setCell_other (ownsRow_setCell_other (ownsRow_setCell_other (ownsRow_setCell_other h1 h2 _) h2 _) h2 _) h2 _) h2 _) h2 _
  refine ⟨?_, ?_, ?_⟩
  · have g0 := ownsRow_setCell_other e2 (a := ⟨P, pr i, none⟩) (by simp [Value.ownBlock]; omega) (.slice (some ⟨gg, 0, none⟩) ((evOf pr (pr i) i).length + 1) cap)
    have g1 := (((((((g0.stored (i * 6) x0).1).stored (i * 6 + 1) x1).1.stored (i * 6 + 2) x2).1.stored (i * 6 + 3) x3).1.stored (i * 6 + 4) (.int .i64 (fr i))).1.stored (i * 6 + 5) x5).1
    refine ⟨_, g1, fun j hj => ?_⟩
    by_cases hji : j = i
    · subst hji
      rw [List.getElem?_set_ne (by omega), List.getElem?_set_self (by simp; omega)]
    · rw [List.getElem?_set_ne (by omega), List.getElem?_set_ne (by omega), List.getElem?_set_ne (by omega), List.getElem?_set_ne (by omega), List.getElem?_set_ne (by omega), List.getElem?_set_ne (by omega)]
      exact he2 j (by omega)
  · refine ⟨_, other _ _ _ _ _ _ _ _ _ _ _ _ _ (ownsRow_setCell_other f2 (by simp [Value.ownBlock]; omega) _) (by simp [Value.ownBlock]; omega), fun j hj => ?_⟩
    by_cases hji : j = i
    · subst hji
      rw [List.getElem?_set_self (by omega)]
    · rw [List.getElem?_set_ne (by omega)]
      exact hf2 j (by omega)
  · refine ⟨_, other _ _ _ _ _ _ _ _ _ _ _ _ _ (p2.stored (pr i) _).1 (by simp [Value.ownBlock]; omega), fun p hp' => ?_, fun p q u u' hpq h1 h2 => ?_⟩
    · by_cases hpi : p = pr i
      · subst hpi
        refine ⟨_, List.getElem?_set_self (by omega), ?_⟩
        have h0 : w2.ownsRow (F + 1) 3 1 (.slice (some ⟨gg, 0, none⟩) ((evOf pr (pr i) i).length + 1) cap) (evOf pr (pr i) (i + 1)).length ((evOf pr (pr i) (i + 1)).map (Value.int .i64)) := by
          rw [evOf_succ_eq]; simpa using hown
        exact other _ _ _ _ _ _ _ _ _ _ _ _ _ (ownsRow_setCell_below h0 (by show P < F + 1; omega) _) (ne_of_lt_own h0 (by omega))
      · obtain ⟨u, hu, huo⟩ := hx2 p hp'
        refine ⟨u, by rw [List.getElem?_set_ne (Ne.symm hpi)]; exact hu, ?_⟩
        rw [evOf_succ_ne pr p i (Ne.symm hpi)]
        have h0 : w2.ownsRow (F + 1) 3 1 u (evOf pr p i).length ((evOf pr p i).map (Value.int .i64)) :=
          (((ownsRow_setCell_below huo (a := ⟨F, i, none⟩) (by show F < F + 1; omega) _).alloc _).alloc _).kept hgrow (hx3 p (pr i) u v hpi hu hv)
        exact other _ _ _ _ _ _ _ _ _ _ _ _ _ (ownsRow_setCell_below h0 (by show P < F + 1; omega) _) (ne_of_lt_own h0 (by omega))
    · have old : ∀ q u, xs'[q]? = some u → q ≠ pr i → u.ownBlock = none ∨ u.ownBlock ≠ some gg := fun q u hu hne => by
        have hq : q < kk := by
          have := (List.getElem?_eq_some_iff.1 hu).1
          omega
        obtain ⟨u2, hu2, huo⟩ := hx2 q hq
        rw [hu] at hu2
        cases hu2
        rcases hat with h | h
        · have := hx3 q (pr i) u v hne hu hv
          rw [h] at this
          exact this
        · right
          intro h3
          have := (huo.lt gg h3).2
          omega
      by_cases hpi : p = pr i
      · subst hpi
        rw [List.getElem?_set_self (by omega)] at h1
        rw [List.getElem?_set_ne hpq] at h2
        cases h1
        rcases old q u' h2 (Ne.symm hpq) with h3 | h3
        · right; rw [h3]; simp [Value.ownBlock]
        · right; exact fun h4 => h3 h4.symm
      · rw [List.getElem?_set_ne (Ne.symm hpi)] at h1
        by_cases hqi : q = pr i
        · subst hqi
          rw [List.getElem?_set_self (by omega)] at h2
          cases h2
          exact old p u h1 hpi
        · rw [List.getElem?_set_ne (Ne.symm hqi)] at h2
          exact hx3 p q u u' hpq h1 h2

end Go.Proofs.Ybulkavla
