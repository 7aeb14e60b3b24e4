/-
  Seat b2335a, laws B: the contract of zzs2335bsame (function 12): on two slices that hold the same numbers it answers true.
-/
import Derived.Test.YbulkaviiBits
namespace Go.Proofs.Ybulkavii
open Go.RowKit

/-- What a slice that owns a row of ints gives a reader. -/
theorem owns_view {w : World} {base : Nat} {v : Value} {l : List Int} (h : w.ownsRow base 3 1 v l.length (l.map (Value.int .i64))) :
    ∃ a cap, v = .slice a l.length cap ∧ (l ≠ [] → ∃ g, a = some ⟨g, 0, none⟩ ∧ ∀ j, j < l.length → w.cell? ⟨g, j, none⟩ = some (.int .i64 (l.getD j 0))) := by
  rcases h.2 with ⟨rfl, h0⟩ | ⟨g, cap, cur, rfl, hb, hg, hn, hc, hs, ht⟩
  · exact ⟨none, 0, by rw [h0], fun hl => absurd (List.length_eq_zero_iff.1 h0) hl⟩
  · refine ⟨some ⟨g, 0, none⟩, cap, rfl, fun _ => ⟨g, rfl, fun j hj => ?_⟩⟩
    rw [cell_of_row _ _ _ _ _ _ hg]
    have : (cur.toList.take (l.length * 1))[j]? = (l.map (Value.int .i64))[j]? := by rw [ht]
    rw [List.getElem?_take, if_pos (by omega)] at this
    simp only [Array.getElem?_toList] at this
    rw [this]
    simp [List.getD, hj]

set_option maxHeartbeats 400000 in
theorem same_any (l : List Int) (v1 v2 : Value) (b1 b2 : Nat) (w : World) (hl : l.length ≤ 1024) (h1 : w.ownsRow b1 3 1 v1 l.length (l.map (Value.int .i64))) (h2 : w.ownsRow b2 3 1 v2 l.length (l.map (Value.int .i64))) :
    Calls Yba.prog 12 #[v1, v2] w fun e w' => e = .returned (.bool true) ∧ Below w.heap.size w w' := by
  obtain ⟨a1, cap1, rfl, hv1⟩ := owns_view h1
  obtain ⟨a2, cap2, rfl, hv2⟩ := owns_view h2
  clear h1 h2
  by_cases hne : l = []
  · subst hne
    clear hv1 hv2 hl
    go_enter Yba.func12, Yba.ntmps12
    go_wp2
    refine wp_loop_rounds 1 ?_
    rw [rounds_succ]
    go_wp2
    go_ret
    exact ⟨rfl, Below.refl _ _⟩
  · obtain ⟨g1, rfl, hc1⟩ := hv1 hne
    obtain ⟨g2, rfl, hc2⟩ := hv2 hne
    clear hv1 hv2 hne
    have H1 := hidden hc1
    have H2 := hidden hc2
    clear hc1 hc2
    obtain ⟨n, hn⟩ : ∃ n, Hid (n = l.length) := ⟨_, rfl⟩
    rw [← hn.out] at H1 H2 hl ⊢
    have hnn : ((n : Int) != (n : Int)) = false := by simp
    go_enter Yba.func12, Yba.ntmps12
    go_wp2
    go_loopw [5] (fun i wr => ∃ k : Nat, k ≤ n ∧ i = .int .i64 k ∧ ∃ m, wr = w.drewN m) (fun i _ => n - (intOf i).toNat)
    case atStart => exact ⟨0, by omega, rfl, 0, rfl⟩
    case round =>
      obtain ⟨k, hk, rfl, m, rfl⟩ := hrel
      by_cases hlt : k < n
      · obtain ⟨x, hx⟩ : ∃ x, Hid (x = l.getD k 0) := ⟨_, rfl⟩
        have c1 : w.cell? ⟨g1, k, none⟩ = some (.int .i64 x) := by rw [hx.out]; exact H1.out k hlt
        have c2 : w.cell? ⟨g2, k, none⟩ = some (.int .i64 x) := by rw [hx.out]; exact H2.out k hlt
        have hI : (k : Int) < (n : Int) := by omega
        have hxx : (x != x) = false := by simp
        go_wp2
        go_quiet (fail)
        go_wp2
        go_roundw
        case rel => exact ⟨k + 1, by omega, by go_num, _, rfl⟩
        case measure => simp [intOf]; omega
      · go_wp2
        go_ret
        exact ⟨rfl, below_drewN (Below.refl _ _) _⟩

end Go.Proofs.Ybulkavii
