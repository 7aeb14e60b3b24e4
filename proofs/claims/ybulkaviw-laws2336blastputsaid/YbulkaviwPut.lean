/-
  Seat b2336a, law BLastPut: the walk (function 4).
-/
import Derived.Test.YbulkaviwHeld
namespace Go.Proofs.Ybulkaviw
open Go.RowKit

theorem owns_below {w w' : World} {base : Nat} {e : TypeId} {size : Nat} {v : Value} {n : Nat} {xs : List Value} (h : w.ownsRow base e size v n xs) (hb : Below w.heap.size w w') : w'.ownsRow base e size v n xs := by
  refine ⟨h.1, ?_⟩
  rcases h.2 with h | ⟨g, cap, cur, h1, h2, h3, h4⟩
  · exact .inl h
  · have hlt : g < w.heap.size := by
      rcases Nat.lt_or_ge g w.heap.size with h | h
      · exact h
      · rw [Array.getElem?_eq_none h] at h3; cases h3
    exact .inr ⟨g, cap, cur, h1, h2, (hb.block g hlt).trans h3, h4⟩

theorem last_one (R g cap m q n L T : Nat) (t : Int) (vals : List Int) (S P : Nat → Nat) (lv : Value) (w : World) (hm : m ≤ 16) (hq : q < 16) (hT : T < L) (hRL : R < L) (hgL : g < L) (ht : -128 ≤ t ∧ t ≤ 127) (hvals : ∀ j, -128 ≤ vals.getD j 0 ∧ vals.getD j 0 ≤ 127)
    (a0 : Option Addr) (ha0 : 0 < m → a0 = some ⟨g, 0, none⟩)
    (c0 : w.cell? ⟨R, 0, none⟩ = some (.slice a0 m cap)) (c1 : w.cell? ⟨R, 1, none⟩ = some (.int .i64 q)) (hc : w.cell? ⟨T, 0, none⟩ = some (.int .i8 t))
    (hrow : ∀ p, p < m → w.cell? ⟨g, p * 2, none⟩ = some (.int .i64 (S p)) ∧ w.cell? ⟨g, p * 2 + 1, none⟩ = some (.int .i8 (vals.getD (S p) 0)))
    (hP : ∀ k, k < m → P k < m ∧ S (P k) = n - 1 - k ∧ ((q : Int) - 1 - k < 0 → (q : Int) - 1 - k + m = (P k : Int)) ∧ (¬ (q : Int) - 1 - k < 0 → (q : Int) - 1 - k = (P k : Int)))
    (hL : w.heap[L]? = some (.cells #[lv] 47)) (hown : w.ownsRow (L + 1) 3 1 lv (ls n 0).length ((ls n 0).map (Value.int .i64))) :
    Calls Yba.prog 9 #[.pointer (some ⟨R, 0, none⟩), .func (.func 8) #[] #[.pointer (some ⟨L, 0, none⟩), .pointer (some ⟨T, 0, none⟩)]] w fun e w' => ∃ (K : Nat) (lv' : Value) (got : Int), e = .returned (.int .i64 got) ∧ Hid (K ≤ m ∧ (∀ j, j < K → hit (vals.getD (n - 1 - j) 0) t = false) ∧ Below L w w' ∧ w'.heap[L]? = some (.cells #[lv'] 47) ∧
      w'.ownsRow (L + 1) 3 1 lv' (ls n (min (K + 1) m)).length ((ls n (min (K + 1) m)).map (Value.int .i64)) ∧ (K < m → hit (vals.getD (n - 1 - K) 0) t = true ∧ got = (P K : Int)) ∧ (K = m → got = -1)) := by
  refine (last_any R g cap m q n L T t vals S P lv w hm hq hT hRL hgL ht hvals a0 ha0 c0 c1 hc hrow hP hL hown).mono ?_
  rintro e w' ⟨K, lv', hK, hmiss, hb, hL', h | h⟩
  · obtain ⟨h1, h2, rfl, h4⟩ := h
    exact ⟨K, lv', _, rfl, hK, hmiss, hb, hL', by rw [show min (K + 1) m = K + 1 by omega]; exact h4, fun _ => ⟨h2, rfl⟩, fun h => by omega⟩
  · obtain ⟨h1, rfl, h4⟩ := h
    exact ⟨K, lv', _, rfl, hK, hmiss, hb, hL', by rw [show min (K + 1) m = m by omega]; exact h4, fun h => by omega, fun _ => rfl⟩

set_option maxRecDepth 100000 in
set_option maxHeartbeats 4000000 in
theorem put_walk (vals : List Int) (a0 : Option Addr) (n cap : Nat) (a1 t : Int) (w : World) (hn : n ≤ 1024)
    (hrow : 0 < n → ∃ pb po, a0 = some ⟨pb, po, none⟩ ∧ pb < w.heap.size ∧ ∀ j, j < n → w.cell? ⟨pb, po + j, none⟩ = some (.int .i8 (vals.getD j 0))) (hz : ∀ j, -128 ≤ vals.getD j 0 ∧ vals.getD j 0 ≤ 127)
    (ha : 0 ≤ a1 ∧ a1 ≤ 255) (ht : -128 ≤ t ∧ t ≤ 127) :
    Calls Yba.prog 4 #[.slice a0 n cap, .int .u8 a1, .int .i8 t] w fun e w' => e = .returned (.bool true) ∧ Below w.heap.size w w' := by
  have HROW := hidden hrow
  have HZ := hidden hz
  have HT := hidden ht
  clear hrow hz ht
  obtain ⟨i0, hi0, hz0, hz1, hz2⟩ := info_parts info3
  obtain ⟨ha0, ha1⟩ := ha
  obtain ⟨sz, hsz, hs0, hs1⟩ : ∃ sz : Nat, 1 + a1 % 16 = (sz : Int) ∧ 0 < sz ∧ sz ≤ 16 := ⟨(1 + a1 % 16).toNat, by omega, by omega, by omega⟩
  have hnI : ¬ (1024 : Int) < (n : Int) := by omega
  go_enter Yba.func4, Yba.ntmps4
  go_wp2
  go_loopw [29] (fun i wr => ∃ k : Nat, k ≤ n ∧ i = .int .i64 k ∧ Hid (RingRel (w.heap.size + 1) k sz vals wr) ∧ Below (w.heap.size + 1) (w.alloc (.cells #[.int .i8 t] 40)) wr) (fun i _ => n - (intOf i).toNat)
  case atStart =>
    refine ⟨0, by omega, rfl, ⟨.slice none 0 0, [], fun _ => 0, ?_, ?_, ?_⟩, ?_⟩
    · have h := heap_alloc_new (w.alloc (.cells #[.int .i8 t] 40)) (.cells #[.slice none 0 0, .int .i64 0] 43)
      simp only [World.size_alloc] at h
      have h2 : nextOf 0 sz = 0 := by simp [nextOf]
      rw [h2]
      exact h
    · exact ⟨by simp, .inl ⟨rfl, by simp⟩⟩
    · intro p hp
      exact absurd hp (by simp)
    · exact (Below.refl _ _).alloc (by simp) _
  case round =>
    obtain ⟨k, hk, rfl, HK, hbel⟩ := hrel
    by_cases hlt : k < n
    · obtain ⟨pb, po, rfl, hpb, hpc⟩ := HROW.out (by omega)
      have hI : (k : Int) < (n : Int) := by omega
      obtain ⟨x, hx⟩ : ∃ x, Hid (x = vals.getD k 0) := ⟨_, rfl⟩
      have hc : wr.cell? ⟨pb, po + k, none⟩ = some (.int .i8 x) := by
        rw [hbel.cell (p := ⟨pb, po + k, none⟩) (by show pb < _; omega), World.cell?_alloc_past _ _ _ hpb, hx.out]; exact hpc k hlt
      have HPUT := hidden (put_step (w.heap.size + 1) k sz vals wr HK.out hs0 hs1)
      rw [← hx.out] at HPUT
      have HB := hidden hbel
      clear hpc hbel
      go_wp2_with (go_at_call 7; refine HPUT.out.mono ?_; rintro e w1 ⟨rfl, hr1, hb1⟩; have HR1 := hidden hr1; have HB1 := hidden hb1; clear hr1 hb1)
      go_roundw
      case rel => exact ⟨k + 1, by omega, by go_num, HR1.out, HB.out.trans HB1.out⟩
      case measure => simp [intOf]; omega
    · obtain rfl : k = n := by omega
      obtain ⟨wo, hwo⟩ : ∃ wo, wo = wr := ⟨_, rfl⟩
      subst hwo
      obtain ⟨held, xs, S, hR, hown, hH⟩ := HK.out
      obtain ⟨ah, caph, rfl⟩ := owns_slice hown
      have hTw : wo.heap[w.heap.size]? = some (.cells #[.int .i8 t] 40) := (hbel.block _ (by omega)).trans (heap_alloc_new w _)
      have hsw : w.heap.size + 1 < wo.heap.size := by
        rcases Nat.lt_or_ge (w.heap.size + 1) wo.heap.size with h | h
        · exact h
        · rw [Array.getElem?_eq_none h] at hR; cases hR
      obtain ⟨g, hgL, hg, hrow⟩ : ∃ g, g < wo.heap.size ∧ (0 < min k sz → ah = some ⟨g, 0, none⟩) ∧ ∀ p, p < min k sz → wo.cell? ⟨g, p * 2, none⟩ = some (.int .i64 (S p)) ∧ wo.cell? ⟨g, p * 2 + 1, none⟩ = some (.int .i8 (vals.getD (S p) 0)) := by
        by_cases hm0 : 0 < min k sz
        · obtain ⟨g, cap', hv, _, hlt'⟩ := hown.form hm0
          cases hv
          refine ⟨g, hlt', fun _ => rfl, fun p hp => ?_⟩
          obtain ⟨_, _, _, h4, h5⟩ := hH p hp
          rw [hown.cellAt (p * 2) (by omega), hown.cellAt (p * 2 + 1) (by omega)]
          exact ⟨h4, h5⟩
        · exact ⟨0, by omega, fun h => absurd h hm0, fun p hp => absurd hp (by omega)⟩
      have hPL := place k sz vals S xs hH hs0
      obtain ⟨q, hq⟩ : ∃ q, Hid (q = nextOf k sz) := ⟨_, rfl⟩
      have hq16 : q < 16 := by
        rw [hq.out]; unfold nextOf
        split
        · omega
        · have := Nat.mod_lt k hs0; omega
      rw [← hq.out] at hR hPL
      obtain ⟨m, hm⟩ : ∃ m, Hid (m = min k sz) := ⟨_, rfl⟩
      rw [← hm.out] at hR hown hH hg hrow hPL
      have hm16 : m ≤ 16 := by rw [hm.out]; omega
      have hmn : m ≤ k := by rw [hm.out]; omega
      have LAST := hidden (last_one (w.heap.size + 1) g caph m q k wo.heap.size w.heap.size t vals S (fun j => (k - 1 - j) % sz) (.slice none 0 0) (wo.alloc (.cells #[.slice none 0 0] 47)) hm16 hq16 (by omega) hsw hgL HT.out HZ.out ah hg
        (by rw [World.cell?_alloc_past _ _ _ hsw, cell_of_row _ _ _ _ _ _ hR]; rfl) (by rw [World.cell?_alloc_past _ _ _ hsw, cell_of_row _ _ _ _ _ _ hR]; rfl)
        (by rw [World.cell?_alloc_past _ _ _ (by omega), cell_of_row _ _ _ _ _ _ hTw]; rfl) (fun p hp => by rw [World.cell?_alloc_past _ _ _ hgL, World.cell?_alloc_past _ _ _ hgL]; exact hrow p hp) hPL (heap_alloc_new wo _) ⟨rfl, .inl ⟨rfl, rfl⟩⟩)
      have HR := hidden hR
      have HTW := hidden hTw
      have HB := hidden hbel
      have HG := hidden hg
      have HRW := hidden hrow
      have HPL := hidden hPL
      clear hR hTw hbel hg hrow hPL hown hH HK
      rcases Nat.lt_or_ge sz k with hcmp | hcmp
      · obtain rfl : sz = m := by rw [hm.out]; omega
        have hcI : (sz : Int) < (k : Int) := by omega
        have hcB : decide (sz < k) = true := by simp; omega
        have hne : (((sz : Nat) : Int) != ((sz : Nat) : Int)) = false := by simp
        go_wp2_with (go_at_call 9; refine LAST.out.mono ?_; rintro e w1 ⟨K, lv', got, rfl, HK⟩; have d0 : w1.cell? ⟨w.heap.size + 1, 0, none⟩ = some (.slice ah sz caph) := (HK.out.2.2.1.cell (p := ⟨w.heap.size + 1, 0, none⟩) hsw).trans (by rw [World.cell?_alloc_past _ _ _ hsw, cell_of_row _ _ _ _ _ _ HR.out]; rfl))
        obtain ⟨hKm, x1, HB1, x2, x3, x4, x5⟩ := HK.out
        have HMISS := hidden x1
        have HL1 := hidden x2
        have HO1 := hidden x3
        have HHIT := hidden x4
        have HNO := hidden x5
        have HW1 := hidden HB1
        have HBW := hidden (((Below.refl w.heap.size w).alloc (Nat.le_refl _) (.cells #[.int .i8 t] 40)).trans ((HB.out.mono (Nat.le_succ _)).trans (((Below.refl _ wo).alloc (by omega) (.cells #[.slice none 0 0] 47)).trans (HB1.mono (by omega)))))
        have hT1 : w1.cell? ⟨w.heap.size, 0, none⟩ = some (.int .i8 t) := (HB1.cell (p := ⟨w.heap.size, 0, none⟩) (by show w.heap.size < _; omega)).trans (by rw [World.cell?_alloc_past _ _ _ (by omega), cell_of_row _ _ _ _ _ _ HTW.out]; rfl)
        have hsw1 : wo.heap.size < w1.heap.size := by have := HB1.size; simp at this; omega
        have hl1 : w1.cell? ⟨wo.heap.size, 0, none⟩ = some lv' := by rw [cell_of_row _ _ _ _ _ _ x2]; rfl
        clear HB1 HK LAST x1 x2 x3 x4 x5
        go_loopw [16, 17, 18] (fun want cv i w2 => ∃ j : Nat, j ≤ K ∧ want = .int .i64 (-1) ∧ i = .int .i64 j ∧ Hid (w2.ownsRow w1.heap.size 3 1 cv (ls k j).length ((ls k j).map (Value.int .i64))) ∧ Below w1.heap.size w1 w2) (fun _ _ i _ => 1024 - (intOf i).toNat)
        case atStart => exact ⟨0, by omega, rfl, rfl, ⟨rfl, .inl ⟨rfl, rfl⟩⟩, Below.refl _ _⟩
        case round =>
          obtain ⟨j, hj, rfl, rfl, HC, hb2⟩ := hrel
          have HB2 := hidden hb2
          clear hb2
          by_cases hjm : j < sz
          · obtain ⟨pb, po, rfl, hpb, hpc⟩ := HROW.out (by omega)
            obtain ⟨s, hs⟩ : ∃ s, Hid (s = k - 1 - j) := ⟨_, rfl⟩
            have hsk : s < k := by rw [hs.out]; omega
            have hsub : (k : Int) - 1 - (j : Int) = (s : Int) := by rw [hs.out]; omega
            obtain ⟨x, hx⟩ : ∃ x, Hid (x = vals.getD s 0) := ⟨_, rfl⟩
            obtain ⟨x0, x1⟩ := HZ.out s
            rw [← hx.out] at x0 x1
            obtain ⟨t0, t1⟩ := HT.out
            have hxc : w1.cell? ⟨pb, po + s, none⟩ = some (.int .i8 x) := by rw [HBW.out.cell (p := ⟨pb, po + s, none⟩) hpb, hx.out]; exact hpc s hsk
            have hjI : (j : Int) < (sz : Int) := by omega
            have hskI : (s : Int) < (k : Int) := by omega
            clear hpc
            rw [ls_len] at HC
            obtain ⟨ac, capc, rfl⟩ := owns_slice HC.out
            by_cases hjK : j < K
            · have hb : ((x - t).tmod 3 == 0) = false := by
                have h := HMISS.out j hjK
                rw [← hs.out, ← hx.out] at h; exact h
              go_wp2_with (at_builtin; go_must (refine wpList_append_own _ rfl _ _ 47 rfl w1.heap.size 3 i0 (.int .i64 0) 1 8 Yba.underlying47 hi0 hz0 hz1 hz2 rfl (by decide) _ _ _ rfl (HC.out.alloc _) ⟨wr.heap.size, 0, none⟩ 1 1 [.int .i64 s] rfl rfl (cell_one_new _ _ _) (ints_oneCell .i64 [(s : Int)]) (by unfold maxLen; omega) (by omega) (by have := HB2.out.size; simp; omega) ?_); intro v' w2 hown2 hgrow hnil)
              have hbw : Below w1.heap.size w1 w2 := (HB2.out.alloc HB2.out.size _).grown hgrow (by have := HB2.out.size; simp; omega) (fun b hb => (HC.out.lt b hb).1)
              have hxc2 : w2.cell? ⟨pb, po + s, none⟩ = some (.int .i8 x) := (hbw.cell (p := ⟨pb, po + s, none⟩) (by show pb < _; omega)).trans hxc
              have hT2 : w2.cell? ⟨w.heap.size, 0, none⟩ = some (.int .i8 t) := (hbw.cell (p := ⟨w.heap.size, 0, none⟩) (by show w.heap.size < _; omega)).trans hT1
              have HBW2 := hidden hbw
              have HO3 : Hid (∀ d, Hid ((w2.drewN d).ownsRow w1.heap.size 3 1 v' (ls k (j + 1)).length ((ls k (j + 1)).map (Value.int .i64)))) := fun d => owns_below (by rw [ls_succ, ← hs.out]; simpa [ls_len] using hown2) (below_drewN (Below.refl _ _) _)
              clear hbw hown2 hgrow hnil
              go_wp2
              go_quiet (fail)
              go_wp2
              go_roundw
              case rel => exact ⟨j + 1, by omega, rfl, by go_num, HO3.out _, below_drewN HBW2.out _⟩
              case measure => simp [intOf]; omega
            · obtain rfl : j = K := by omega
              obtain ⟨y1, y2⟩ := HHIT.out hjm
              have hb : ((x - t).tmod 3 == 0) = true := by
                rw [← hs.out, ← hx.out] at y1; exact y1
              clear y1
              obtain ⟨p, hp⟩ : ∃ p, Hid (p = (k - 1 - j) % sz) := ⟨_, rfl⟩
              have y3 : got = (p : Int) := by rw [hp.out]; exact y2
              clear y2
              subst y3
              go_wp2_with (at_builtin; go_must (refine wpList_append_own _ rfl _ _ 47 rfl w1.heap.size 3 i0 (.int .i64 0) 1 8 Yba.underlying47 hi0 hz0 hz1 hz2 rfl (by decide) _ _ _ rfl (HC.out.alloc _) ⟨wr.heap.size, 0, none⟩ 1 1 [.int .i64 s] rfl rfl (cell_one_new _ _ _) (ints_oneCell .i64 [(s : Int)]) (by unfold maxLen; omega) (by omega) (by have := HB2.out.size; simp; omega) ?_); intro v' w2 hown2 hgrow hnil)
              have hbw : Below w1.heap.size w1 w2 := (HB2.out.alloc HB2.out.size _).grown hgrow (by have := HB2.out.size; simp; omega) (fun b hb => (HC.out.lt b hb).1)
              have hxc2 : w2.cell? ⟨pb, po + s, none⟩ = some (.int .i8 x) := (hbw.cell (p := ⟨pb, po + s, none⟩) (by show pb < _; omega)).trans hxc
              have hT2 : w2.cell? ⟨w.heap.size, 0, none⟩ = some (.int .i8 t) := (hbw.cell (p := ⟨w.heap.size, 0, none⟩) (by show w.heap.size < _; omega)).trans hT1
              have hl2 : w2.cell? ⟨wo.heap.size, 0, none⟩ = some lv' := (hbw.cell (p := ⟨wo.heap.size, 0, none⟩) hsw1).trans hl1
              have d2 : w2.cell? ⟨w.heap.size + 1, 0, none⟩ = some (.slice ah sz caph) := (hbw.cell (p := ⟨w.heap.size + 1, 0, none⟩) (by show _ + 1 < _; omega)).trans d0
              obtain ⟨q1, q2, _⟩ := HPL.out j hjm
              rw [← hp.out] at q1 q2
              obtain rfl := HG.out (by omega)
              have hgc : w2.cell? ⟨g, p * 2, none⟩ = some (.int .i64 s) := by
                rw [hbw.cell (p := ⟨g, p * 2, none⟩) (by show g < _; omega), HW1.out.cell (p := ⟨g, p * 2, none⟩) hgL, World.cell?_alloc_past _ _ _ hgL, (HRW.out p q1).1, q2, hs.out]
              have EQ := hidden (fun d => equal_any (ls k (j + 1)) lv' v' (wo.heap.size + 1) w1.heap.size (w2.drewN d) (by rw [ls_len]; omega) (by rw [show min (j + 1) sz = j + 1 by omega] at HO1; exact owns_below (owns_below HO1.out hbw) (below_drewN (Below.refl _ _) _)) (owns_below (by rw [ls_succ, ← hs.out]; simpa [ls_len] using hown2) (below_drewN (Below.refl _ _) _)))
              have HBW2 := hidden hbw
              have hp0 : (0 : Int) ≤ (p : Int) := by omega
              have hp1 : (p : Int) < (sz : Int) := by omega
              have hss : ((s : Int) == (s : Int)) = true := by simp
              have hs0' : ¬ (s : Int) < 0 := by omega
              clear hbw hown2 hgrow hnil q1 q2
              go_wp2
              go_quiet (fail)
              go_wp2_with (go_at_call 10; refine (EQ.out _).mono ?_; rintro e w3 ⟨rfl, dm, rfl⟩)
              go_ret
              exact ⟨rfl, HBW.out.trans (below_drewN (HBW2.out.mono HBW.out.size) _)⟩
          · obtain rfl : sz = j := by omega
            obtain rfl : sz = K := by omega
            have y2 := HNO.out rfl
            subst y2
            have hl2 : wr.cell? ⟨wo.heap.size, 0, none⟩ = some lv' := (HB2.out.cell (p := ⟨wo.heap.size, 0, none⟩) hsw1).trans hl1
            have EQ := hidden (equal_any (ls k sz) lv' _ (wo.heap.size + 1) w1.heap.size wr (by rw [ls_len]; omega) (by rw [show min (sz + 1) sz = sz by omega] at HO1; exact owns_below HO1.out HB2.out) HC.out)
            go_wp2_with (go_at_call 10; refine EQ.out.mono ?_; rintro e w3 ⟨rfl, dm, rfl⟩)
            go_ret
            exact ⟨rfl, HBW.out.trans (below_drewN (HB2.out.mono HBW.out.size) _)⟩
      · obtain rfl : k = m := by rw [hm.out]; omega
        have hcI : ¬ (sz : Int) < (k : Int) := by omega
        have hcB : decide (sz < k) = false := by simp; omega
        have hne : (((k : Nat) : Int) != ((k : Nat) : Int)) = false := by simp
        go_wp2_with (go_at_call 9; refine LAST.out.mono ?_; rintro e w1 ⟨K, lv', got, rfl, HK⟩; have d0 : w1.cell? ⟨w.heap.size + 1, 0, none⟩ = some (.slice ah k caph) := (HK.out.2.2.1.cell (p := ⟨w.heap.size + 1, 0, none⟩) hsw).trans (by rw [World.cell?_alloc_past _ _ _ hsw, cell_of_row _ _ _ _ _ _ HR.out]; rfl))
        obtain ⟨hKm, x1, HB1, x2, x3, x4, x5⟩ := HK.out
        have HMISS := hidden x1
        have HL1 := hidden x2
        have HO1 := hidden x3
        have HHIT := hidden x4
        have HNO := hidden x5
        have HW1 := hidden HB1
        have HBW := hidden (((Below.refl w.heap.size w).alloc (Nat.le_refl _) (.cells #[.int .i8 t] 40)).trans ((HB.out.mono (Nat.le_succ _)).trans (((Below.refl _ wo).alloc (by omega) (.cells #[.slice none 0 0] 47)).trans (HB1.mono (by omega)))))
        have hT1 : w1.cell? ⟨w.heap.size, 0, none⟩ = some (.int .i8 t) := (HB1.cell (p := ⟨w.heap.size, 0, none⟩) (by show w.heap.size < _; omega)).trans (by rw [World.cell?_alloc_past _ _ _ (by omega), cell_of_row _ _ _ _ _ _ HTW.out]; rfl)
        have hsw1 : wo.heap.size < w1.heap.size := by have := HB1.size; simp at this; omega
        have hl1 : w1.cell? ⟨wo.heap.size, 0, none⟩ = some lv' := by rw [cell_of_row _ _ _ _ _ _ x2]; rfl
        clear HB1 HK LAST x1 x2 x3 x4 x5
        go_loopw [16, 17, 18] (fun want cv i w2 => ∃ j : Nat, j ≤ K ∧ want = .int .i64 (-1) ∧ i = .int .i64 j ∧ Hid (w2.ownsRow w1.heap.size 3 1 cv (ls k j).length ((ls k j).map (Value.int .i64))) ∧ Below w1.heap.size w1 w2) (fun _ _ i _ => 1024 - (intOf i).toNat)
        case atStart => exact ⟨0, by omega, rfl, rfl, ⟨rfl, .inl ⟨rfl, rfl⟩⟩, Below.refl _ _⟩
        case round =>
          obtain ⟨j, hj, rfl, rfl, HC, hb2⟩ := hrel
          have HB2 := hidden hb2
          clear hb2
          by_cases hjm : j < k
          · obtain ⟨pb, po, rfl, hpb, hpc⟩ := HROW.out (by omega)
            obtain ⟨s, hs⟩ : ∃ s, Hid (s = k - 1 - j) := ⟨_, rfl⟩
            have hsk : s < k := by rw [hs.out]; omega
            have hsub : (k : Int) - 1 - (j : Int) = (s : Int) := by rw [hs.out]; omega
            obtain ⟨x, hx⟩ : ∃ x, Hid (x = vals.getD s 0) := ⟨_, rfl⟩
            obtain ⟨x0, x1⟩ := HZ.out s
            rw [← hx.out] at x0 x1
            obtain ⟨t0, t1⟩ := HT.out
            have hxc : w1.cell? ⟨pb, po + s, none⟩ = some (.int .i8 x) := by rw [HBW.out.cell (p := ⟨pb, po + s, none⟩) hpb, hx.out]; exact hpc s hsk
            have hjI : (j : Int) < (k : Int) := by omega
            have hskI : (s : Int) < (k : Int) := by omega
            clear hpc
            rw [ls_len] at HC
            obtain ⟨ac, capc, rfl⟩ := owns_slice HC.out
            by_cases hjK : j < K
            · have hb : ((x - t).tmod 3 == 0) = false := by
                have h := HMISS.out j hjK
                rw [← hs.out, ← hx.out] at h; exact h
              go_wp2_with (at_builtin; go_must (refine wpList_append_own _ rfl _ _ 47 rfl w1.heap.size 3 i0 (.int .i64 0) 1 8 Yba.underlying47 hi0 hz0 hz1 hz2 rfl (by decide) _ _ _ rfl (HC.out.alloc _) ⟨wr.heap.size, 0, none⟩ 1 1 [.int .i64 s] rfl rfl (cell_one_new _ _ _) (ints_oneCell .i64 [(s : Int)]) (by unfold maxLen; omega) (by omega) (by have := HB2.out.size; simp; omega) ?_); intro v' w2 hown2 hgrow hnil)
              have hbw : Below w1.heap.size w1 w2 := (HB2.out.alloc HB2.out.size _).grown hgrow (by have := HB2.out.size; simp; omega) (fun b hb => (HC.out.lt b hb).1)
              have hxc2 : w2.cell? ⟨pb, po + s, none⟩ = some (.int .i8 x) := (hbw.cell (p := ⟨pb, po + s, none⟩) (by show pb < _; omega)).trans hxc
              have hT2 : w2.cell? ⟨w.heap.size, 0, none⟩ = some (.int .i8 t) := (hbw.cell (p := ⟨w.heap.size, 0, none⟩) (by show w.heap.size < _; omega)).trans hT1
              have HBW2 := hidden hbw
              have HO3 : Hid (∀ d, Hid ((w2.drewN d).ownsRow w1.heap.size 3 1 v' (ls k (j + 1)).length ((ls k (j + 1)).map (Value.int .i64)))) := fun d => owns_below (by rw [ls_succ, ← hs.out]; simpa [ls_len] using hown2) (below_drewN (Below.refl _ _) _)
              clear hbw hown2 hgrow hnil
              go_wp2
              go_quiet (fail)
              go_wp2
              go_roundw
              case rel => exact ⟨j + 1, by omega, rfl, by go_num, HO3.out _, below_drewN HBW2.out _⟩
              case measure => simp [intOf]; omega
            · obtain rfl : j = K := by omega
              obtain ⟨y1, y2⟩ := HHIT.out hjm
              have hb : ((x - t).tmod 3 == 0) = true := by
                rw [← hs.out, ← hx.out] at y1; exact y1
              clear y1
              obtain ⟨p, hp⟩ : ∃ p, Hid (p = (k - 1 - j) % sz) := ⟨_, rfl⟩
              have y3 : got = (p : Int) := by rw [hp.out]; exact y2
              clear y2
              subst y3
              go_wp2_with (at_builtin; go_must (refine wpList_append_own _ rfl _ _ 47 rfl w1.heap.size 3 i0 (.int .i64 0) 1 8 Yba.underlying47 hi0 hz0 hz1 hz2 rfl (by decide) _ _ _ rfl (HC.out.alloc _) ⟨wr.heap.size, 0, none⟩ 1 1 [.int .i64 s] rfl rfl (cell_one_new _ _ _) (ints_oneCell .i64 [(s : Int)]) (by unfold maxLen; omega) (by omega) (by have := HB2.out.size; simp; omega) ?_); intro v' w2 hown2 hgrow hnil)
              have hbw : Below w1.heap.size w1 w2 := (HB2.out.alloc HB2.out.size _).grown hgrow (by have := HB2.out.size; simp; omega) (fun b hb => (HC.out.lt b hb).1)
              have hxc2 : w2.cell? ⟨pb, po + s, none⟩ = some (.int .i8 x) := (hbw.cell (p := ⟨pb, po + s, none⟩) (by show pb < _; omega)).trans hxc
              have hT2 : w2.cell? ⟨w.heap.size, 0, none⟩ = some (.int .i8 t) := (hbw.cell (p := ⟨w.heap.size, 0, none⟩) (by show w.heap.size < _; omega)).trans hT1
              have hl2 : w2.cell? ⟨wo.heap.size, 0, none⟩ = some lv' := (hbw.cell (p := ⟨wo.heap.size, 0, none⟩) hsw1).trans hl1
              have d2 : w2.cell? ⟨w.heap.size + 1, 0, none⟩ = some (.slice ah k caph) := (hbw.cell (p := ⟨w.heap.size + 1, 0, none⟩) (by show _ + 1 < _; omega)).trans d0
              obtain ⟨q1, q2, _⟩ := HPL.out j hjm
              rw [← hp.out] at q1 q2
              obtain rfl := HG.out (by omega)
              have hgc : w2.cell? ⟨g, p * 2, none⟩ = some (.int .i64 s) := by
                rw [hbw.cell (p := ⟨g, p * 2, none⟩) (by show g < _; omega), HW1.out.cell (p := ⟨g, p * 2, none⟩) hgL, World.cell?_alloc_past _ _ _ hgL, (HRW.out p q1).1, q2, hs.out]
              have EQ := hidden (fun d => equal_any (ls k (j + 1)) lv' v' (wo.heap.size + 1) w1.heap.size (w2.drewN d) (by rw [ls_len]; omega) (by rw [show min (j + 1) k = j + 1 by omega] at HO1; exact owns_below (owns_below HO1.out hbw) (below_drewN (Below.refl _ _) _)) (owns_below (by rw [ls_succ, ← hs.out]; simpa [ls_len] using hown2) (below_drewN (Below.refl _ _) _)))
              have HBW2 := hidden hbw
              have hp0 : (0 : Int) ≤ (p : Int) := by omega
              have hp1 : (p : Int) < (k : Int) := by omega
              have hss : ((s : Int) == (s : Int)) = true := by simp
              have hs0' : ¬ (s : Int) < 0 := by omega
              clear hbw hown2 hgrow hnil q1 q2
              go_wp2
              go_quiet (fail)
              go_wp2_with (go_at_call 10; refine (EQ.out _).mono ?_; rintro e w3 ⟨rfl, dm, rfl⟩)
              go_ret
              exact ⟨rfl, HBW.out.trans (below_drewN (HBW2.out.mono HBW.out.size) _)⟩
          · obtain rfl : k = j := by omega
            obtain rfl : k = K := by omega
            have y2 := HNO.out rfl
            subst y2
            have hl2 : wr.cell? ⟨wo.heap.size, 0, none⟩ = some lv' := (HB2.out.cell (p := ⟨wo.heap.size, 0, none⟩) hsw1).trans hl1
            have EQ := hidden (equal_any (ls k k) lv' _ (wo.heap.size + 1) w1.heap.size wr (by rw [ls_len]; omega) (by rw [show min (k + 1) k = k by omega] at HO1; exact owns_below HO1.out HB2.out) HC.out)
            go_wp2_with (go_at_call 10; refine EQ.out.mono ?_; rintro e w3 ⟨rfl, dm, rfl⟩)
            go_ret
            exact ⟨rfl, HBW.out.trans (below_drewN (HB2.out.mono HBW.out.size) _)⟩

end Go.Proofs.Ybulkaviw
