/-
  Seat b2336a, law BLastPut: (*ring).last (function 9), slices.Equal (function 10).
-/
import Derived.Test.YbulkaviwAsk
import Derived.Lib.Small
import Derived.Lib.Walk
namespace Go.Proofs.Ybulkaviw
open Go.RowKit

set_option maxRecDepth 100000 in
set_option maxHeartbeats 2000000 in
/-- last: it asks of the ordinals n - 1, n - 2, .. until the first hit. -/
theorem last_any (R g cap m q n L T : Nat) (t : Int) (vals : List Int) (S P : Nat → Nat) (lv : Value) (w : World) (hm : m ≤ 16) (hq : q < 16) (hT : T < L) (hRL : R < L) (hgL : g < L) (ht : -128 ≤ t ∧ t ≤ 127) (hvals : ∀ j, -128 ≤ vals.getD j 0 ∧ vals.getD j 0 ≤ 127)
    (a0 : Option Addr) (ha0 : 0 < m → a0 = some ⟨g, 0, none⟩)
    (c0 : w.cell? ⟨R, 0, none⟩ = some (.slice a0 m cap)) (c1 : w.cell? ⟨R, 1, none⟩ = some (.int .i64 q)) (hc : w.cell? ⟨T, 0, none⟩ = some (.int .i8 t))
    (hrow : ∀ p, p < m → w.cell? ⟨g, p * 2, none⟩ = some (.int .i64 (S p)) ∧ w.cell? ⟨g, p * 2 + 1, none⟩ = some (.int .i8 (vals.getD (S p) 0)))
    (hP : ∀ k, k < m → P k < m ∧ S (P k) = n - 1 - k ∧ ((q : Int) - 1 - k < 0 → (q : Int) - 1 - k + m = (P k : Int)) ∧ (¬ (q : Int) - 1 - k < 0 → (q : Int) - 1 - k = (P k : Int)))
    (hL : w.heap[L]? = some (.cells #[lv] 47)) (hown : w.ownsRow (L + 1) 3 1 lv (ls n 0).length ((ls n 0).map (Value.int .i64))) :
    Calls Yba.prog 9 #[.pointer (some ⟨R, 0, none⟩), .func (.func 8) #[] #[.pointer (some ⟨L, 0, none⟩), .pointer (some ⟨T, 0, none⟩)]] w fun e w' => ∃ K lv', K ≤ m ∧ (∀ j, j < K → hit (vals.getD (n - 1 - j) 0) t = false) ∧ Below L w w' ∧ w'.heap[L]? = some (.cells #[lv'] 47) ∧
      ((K < m ∧ hit (vals.getD (n - 1 - K) 0) t = true ∧ e = .returned (.int .i64 (P K)) ∧ w'.ownsRow (L + 1) 3 1 lv' (ls n (K + 1)).length ((ls n (K + 1)).map (Value.int .i64))) ∨
       (K = m ∧ e = .returned (.int .i64 (-1)) ∧ w'.ownsRow (L + 1) 3 1 lv' (ls n m).length ((ls n m).map (Value.int .i64)))) := by
  have HROW := hidden hrow
  have HP := hidden hP
  have HL := hidden hL
  have HOWN := hidden hown
  have HV := hidden hvals
  have HC := hidden hc
  clear hrow hP hL hown hvals hc
  go_enter Yba.func9, Yba.ntmps9
  go_wp2
  go_loopw [12] (fun i wr => ∃ k : Nat, k ≤ m ∧ i = .int .i64 k ∧ Hid ((∀ j, j < k → hit (vals.getD (n - 1 - j) 0) t = false) ∧ ∃ lv, wr.heap[L]? = some (.cells #[lv] 47) ∧ wr.ownsRow (L + 1) 3 1 lv (ls n k).length ((ls n k).map (Value.int .i64))) ∧ Below L w wr) (fun i _ => m - (intOf i).toNat)
  case atStart => exact ⟨0, by omega, rfl, ⟨fun j hj => absurd hj (by omega), lv, HL.out, HOWN.out⟩, Below.refl _ _⟩
  case round =>
    obtain ⟨k, hk, rfl, HK, hbel⟩ := hrel
    have d0 : wr.cell? ⟨R, 0, none⟩ = some (.slice a0 m cap) := (hbel.cell (p := ⟨R, 0, none⟩) hRL).trans c0
    have d1 : wr.cell? ⟨R, 1, none⟩ = some (.int .i64 q) := (hbel.cell (p := ⟨R, 1, none⟩) hRL).trans c1
    have HB := hidden hbel
    clear hbel
    by_cases hlt : k < m
    · have hI : (k : Int) < (m : Int) := by omega
      obtain ⟨p, hp⟩ : ∃ p, Hid (p = P k) := ⟨_, rfl⟩
      obtain ⟨hp1, hp2, hp3, hp4⟩ := HP.out k hlt
      rw [← hp.out] at hp1 hp2 hp3 hp4
      obtain ⟨e0, e1⟩ := HROW.out p hp1
      rw [hp2] at e0 e1
      obtain rfl := ha0 (by omega)
      obtain ⟨x, hx⟩ : ∃ x, Hid (x = vals.getD (n - 1 - k) 0) := ⟨_, rfl⟩
      obtain ⟨s, hs⟩ : ∃ s : Int, Hid (s = ((n - 1 - k : Nat) : Int)) := ⟨_, rfl⟩
      have hxr := HV.out (n - 1 - k)
      rw [← hx.out] at hxr e1
      rw [← hs.out] at e0
      have r0 : wr.cell? ⟨g, p * 2, none⟩ = some (.int .i64 s) := (HB.out.cell (p := ⟨g, p * 2, none⟩) hgL).trans e0
      have r1 : wr.cell? ⟨g, p * 2 + 1, none⟩ = some (.int .i8 x) := (HB.out.cell (p := ⟨g, p * 2 + 1, none⟩) hgL).trans e1
      have hpp : (p : Int) < (m : Int) := by omega
      have hpp0 : (0 : Int) ≤ (p : Int) := by omega
      obtain ⟨HKa, lvk, HKb, HKc⟩ := HK.out
      have ask := hidden (asked L T s x t lvk (ls n k) wr hxr ht hT HKb HKc (by rw [ls_len]; omega) ((HB.out.cell (p := ⟨T, 0, none⟩) hT).trans HC.out))
      have HKA := hidden HKa
      clear e0 e1 HKa HKb HKc hp2 HK hxr
      have stepF : hit x t = false → ∀ (w1 : World) (lv1 : Value), w1.heap[L]? = some (.cells #[lv1] 47) → w1.ownsRow (L + 1) 3 1 lv1 (ls n k ++ [s]).length ((ls n k ++ [s]).map (Value.int .i64)) →
          Hid ((∀ j, j < k + 1 → hit (vals.getD (n - 1 - j) 0) t = false) ∧ ∃ lv, w1.heap[L]? = some (.cells #[lv] 47) ∧ w1.ownsRow (L + 1) 3 1 lv (ls n (k + 1)).length ((ls n (k + 1)).map (Value.int .i64))) := fun h w1 lv1 h1 h2 => by
        refine ⟨fun j hj => ?_, lv1, h1, by rw [ls_succ, ← hs.out]; exact h2⟩
        rcases Nat.lt_or_ge j k with h3 | h3
        · exact HKA.out j h3
        · obtain rfl : j = k := by omega
          rw [← hx.out]; exact h
      have HSF := hidden stepF
      clear stepF
      rcases Bool.eq_false_or_eq_true (hit x t) with hh | hh <;> rw [hh] at ask <;> by_cases hneg : (q : Int) - 1 - k < 0
      · have hi := hp3 hneg
        clear hp3 hp4
        go_wp2_with (go_at_call 8; refine ask.out.mono ?_; rintro e w1 ⟨rfl, lv1, hL1, ho1, hb1⟩; have HL1 := hidden hL1; have HO1 := hidden ho1; have HB1 := hidden hb1; clear hL1 ho1 hb1)
        go_ret
        exact ⟨k, lv1, hk, HKA.out, HB.out.trans HB1.out, HL1.out, .inl ⟨hlt, by rw [← hx.out]; exact hh, by rw [← hp.out]; rfl, by rw [ls_succ, ← hs.out]; exact HO1.out⟩⟩
      · have hi := hp4 (by omega)
        clear hp3 hp4
        go_wp2_with (go_at_call 8; refine ask.out.mono ?_; rintro e w1 ⟨rfl, lv1, hL1, ho1, hb1⟩; have HL1 := hidden hL1; have HO1 := hidden ho1; have HB1 := hidden hb1; clear hL1 ho1 hb1)
        go_ret
        exact ⟨k, lv1, hk, HKA.out, HB.out.trans HB1.out, HL1.out, .inl ⟨hlt, by rw [← hx.out]; exact hh, by rw [← hp.out]; rfl, by rw [ls_succ, ← hs.out]; exact HO1.out⟩⟩
      · have hi := hp3 hneg
        clear hp3 hp4
        go_wp2_with (go_at_call 8; refine ask.out.mono ?_; rintro e w1 ⟨rfl, lv1, hL1, ho1, hb1⟩; have HL1 := hidden hL1; have HO1 := hidden ho1; have HB1 := hidden hb1; clear hL1 ho1 hb1)
        exact ⟨⟨k + 1, by omega, by go_num, HSF.out hh w1 lv1 HL1.out HO1.out, HB.out.trans HB1.out⟩, by simp [intOf]; omega⟩
      · have hi := hp4 (by omega)
        clear hp3 hp4
        go_wp2_with (go_at_call 8; refine ask.out.mono ?_; rintro e w1 ⟨rfl, lv1, hL1, ho1, hb1⟩; have HL1 := hidden hL1; have HO1 := hidden ho1; have HB1 := hidden hb1; clear hL1 ho1 hb1)
        exact ⟨⟨k + 1, by omega, by go_num, HSF.out hh w1 lv1 HL1.out HO1.out, HB.out.trans HB1.out⟩, by simp [intOf]; omega⟩
    · obtain rfl : k = m := by omega
      go_wp2
      go_ret
      obtain ⟨HKa, lvk, HKb, HKc⟩ := HK.out
      exact ⟨k, lvk, hk, HKa, HB.out, HKb, .inr ⟨rfl, rfl, HKc⟩⟩

/-- What a slice that owns a row of ints gives a reader. -/
theorem owns_view {w : World} {base : Nat} {v : Value} {l : List Int} (h : w.ownsRow base 3 1 v l.length (l.map (Value.int .i64))) :
    ∃ a cap, v = .slice a l.length cap ∧ (l ≠ [] → ∃ g, a = some ⟨g, 0, none⟩ ∧ ∀ j, j < l.length → w.cell? ⟨g, j, none⟩ = some (.int .i64 (l.getD j 0))) := by
  rcases h.2 with ⟨rfl, h0⟩ | ⟨g, cap, cur, rfl, hb, hg, hn, hc, hs, ht⟩
  · exact ⟨none, 0, by rw [h0], fun hl => absurd (List.length_eq_zero_iff.1 h0) hl⟩
  · refine ⟨some ⟨g, 0, none⟩, cap, rfl, fun _ => ⟨g, rfl, fun j hj => ?_⟩⟩
    rw [cell_of_row _ _ _ _ _ _ hg]
    have : (cur.toList.take (l.length * 1))[j]? = (l.map (Value.int .i64))[j]? := by rw [ht]
    rw [List.getElem?_take, if_pos (by omega)] at this
    simp only [Array.getElem?_toList] at this
    rw [this]
    simp [List.getD, hj]

set_option maxHeartbeats 400000 in
theorem equal_any (l : List Int) (v1 v2 : Value) (b1 b2 : Nat) (w : World) (hl : l.length ≤ 1024) (h1 : w.ownsRow b1 3 1 v1 l.length (l.map (Value.int .i64))) (h2 : w.ownsRow b2 3 1 v2 l.length (l.map (Value.int .i64))) :
    Calls Yba.prog 10 #[v1, v2] w fun e w' => e = .returned (.bool true) ∧ ∃ m, w' = w.drewN m := by
  obtain ⟨a1, cap1, rfl, hv1⟩ := owns_view h1
  obtain ⟨a2, cap2, rfl, hv2⟩ := owns_view h2
  clear h1 h2
  by_cases hne : l = []
  · subst hne
    clear hv1 hv2 hl
    go_enter Yba.func10, Yba.ntmps10
    go_wp2
    refine wp_loop_rounds 1 ?_
    rw [rounds_succ]
    go_wp2
    go_ret
    exact ⟨rfl, 0, rfl⟩
  · obtain ⟨g1, rfl, hc1⟩ := hv1 hne
    obtain ⟨g2, rfl, hc2⟩ := hv2 hne
    clear hv1 hv2 hne
    have H1 := hidden hc1
    have H2 := hidden hc2
    clear hc1 hc2
    obtain ⟨n, hn⟩ : ∃ n, Hid (n = l.length) := ⟨_, rfl⟩
    rw [← hn.out] at H1 H2 hl ⊢
    have hnn : ((n : Int) != (n : Int)) = false := by simp
    go_enter Yba.func10, Yba.ntmps10
    go_wp2
    go_loopw [13] (fun i wr => ∃ k : Nat, k ≤ n ∧ i = .int .i64 k ∧ ∃ m, wr = w.drewN m) (fun i _ => n - (intOf i).toNat)
    case atStart => exact ⟨0, by omega, rfl, 0, rfl⟩
    case round =>
      obtain ⟨k, hk, rfl, m, rfl⟩ := hrel
      by_cases hlt : k < n
      · obtain ⟨x, hx⟩ : ∃ x, Hid (x = l.getD k 0) := ⟨_, rfl⟩
        have c1 : w.cell? ⟨g1, k, none⟩ = some (.int .i64 x) := by rw [hx.out]; exact H1.out k hlt
        have c2 : w.cell? ⟨g2, k, none⟩ = some (.int .i64 x) := by rw [hx.out]; exact H2.out k hlt
        have hI : (k : Int) < (n : Int) := by omega
        have hxx : (x != x) = false := by simp
        go_wp2
        go_quiet (fail)
        go_wp2
        go_roundw
        case rel => exact ⟨k + 1, by omega, by go_num, _, rfl⟩
        case measure => simp [intOf]; omega
      · go_wp2
        go_ret
        exact ⟨rfl, _, rfl⟩

end Go.Proofs.Ybulkaviw
