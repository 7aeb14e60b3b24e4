/-
  Seat b2335a: the walk of LawS2335BModel (function 6).
-/
import Derived.Test.YbulkaviiRange
import Derived.Test.YbulkaviiCnt
import Derived.Test.YbulkaviiSame
import Derived.Test.YbulkaviiBucket
namespace Go.Proofs.Ybulkavii
open Go.RowKit
set_option linter.unusedSimpArgs false

/-- The counting loop's state behind a call that only lays new blocks. -/
theorem CntInv.later {W wr w' : World} {L : Int} {bs : Nat → Int} {k : Nat} {v : Value} (h : CntInv W wr L bs k v) (hb : Below wr.heap.size wr w') : CntInv W w' L bs k v := by
  have hs := h.size
  exact ⟨owns_below h.own hb, (hb.block _ (by omega)).trans h.cnt, h.below.trans (hb.mono h.below.size), Nat.le_trans hs hb.size⟩

structure ModelInv (w wr : World) (me : List Int) (ks : List (List Int)) (n k : Nat) : Prop where
  box : wr.rangeAt w.heap.size 0 (me.map (Value.int .u8))
  ks : ∀ i, i < k → wr.rangeAt (w.heap.size + 1) (i * 20) ((ks.getD i []).map (Value.int .u8))
  ksT : wr.there (w.heap.size + 1) 0 (n * 20)
  below : Below w.heap.size w wr
  hi : w.heap.size + 1 < wr.heap.size

theorem ModelInv.step {w wr : World} {me : List Int} {ks : List (List Int)} {n k : Nat} (h : ModelInv w wr me ks n k) (hk : k < n) (hl : ∀ i, i ≤ k → (ks.getD i []).length = 20) (K : List Int) (hK : K = ks.getD k []) :
    ModelInv w (wr.setCells (w.heap.size + 1) (k * 20) (K.map (Value.int .u8))) me ks n (k + 1) := by
  have hhi := h.hi
  have hlen : (K.map (Value.int .u8)).length = 20 := by rw [hK]; simpa using hl k (Nat.le_refl _)
  have htS : wr.there (w.heap.size + 1) (k * 20) 20 := Rng.there_sub h.ksT _ _ (by omega)
  refine ⟨?_, ?_, World.there_setCells h.ksT _ _ _, ?_, ?_⟩
  · exact World.rangeAt_setCells_apart h.box _ _ _ (.inl (by omega))
  · intro i hi
    by_cases hik : i = k
    · subst hik
      rw [← hK]
      exact World.rangeAt_setCells_same _ _ _ _ (by rw [hlen]; exact htS)
    · refine World.rangeAt_setCells_apart (h.ks i (by omega)) _ _ _ (.inr (.inl ?_))
      rw [List.length_map, hl i (by omega)]
      omega
  · exact h.below.trans (Rng.below_setCells _ _ _ _ (by omega))
  · rw [Rng.size_setCells]; omega

set_option maxHeartbeats 1000000 in
set_option maxRecDepth 100000 in
theorem model_walk (size : Int) (self : List Int) (ks : List (List Int)) (a0 : Option Addr) (n cap : Nat) (w : World) (hs : self.length = 20)
    (hrow : 0 < n → ∃ pb po, a0 = some ⟨pb, po, none⟩ ∧ pb < w.heap.size ∧ ∀ j, j < n → w.rangeAt pb (po + j * 20) ((ks.getD j []).map (Value.int .u8))) (hkl : ∀ i, i < n → (ks.getD i []).length = 20) :
    Calls Yba.prog 6 #[.int .i64 size, .agg (bcells self), .slice a0 n cap] w fun e w' => e = .returned (.bool true) ∧ Below w.heap.size w w' := by
  obtain ⟨i0, hi, hz0, hz1, hz2⟩ := info_parts Yba.info3
  obtain ⟨j0, hj, hy0, hy1, hy2⟩ := info_parts Rng.info36
  have HROW := hidden hrow
  have HK := hidden hkl
  clear hrow hkl
  by_cases hn : 1024 < n
  · have hnI : (1024 : Int) < (n : Int) := by omega
    go_enter Yba.func6, Yba.ntmps6
    go_wp2
    go_ret
    exact ⟨rfl, (Below.refl _ _).alloc (Nat.le_refl _) _⟩
  · have hnI : ¬ (1024 : Int) < (n : Int) := by omega
    go_enter Yba.func6, Yba.ntmps6
    go_wp2_with (at_make; refine wpList_make_full _ rfl _ _ 35 rfl (w.heap.size + 1) 36 j0 _ 20 Yba.underlying35 hj hy0 hy1 .i64 .i64 _ _ n rfl rfl rfl rfl (by rw [hy2]; omega) (by unfold maxLen; omega) (by simp) ?_; intro w0 hown0 hgrow0)
    go_loopw [8] (fun i wr => ∃ k : Nat, k ≤ n ∧ i = .int .i64 k ∧ ModelInv w wr self ks n k) (fun i _ => n - (intOf i).toNat)
    case atStart =>
      rw [size_alloc] at hown0
      have hlt0 : w.heap.size + 1 < w0.heap.size := (hown0.lt _ rfl).2
      refine ⟨0, by omega, rfl, ⟨?_, fun i hi => absurd hi (by omega), Rng.owns_there hown0, ?_, hlt0⟩⟩
      · refine rangeAt_of_block (t := 33) (fr := (0, 0)) ?_
        rw [hgrow0.block _ (by simp) (by simp), heap_alloc_new]
      · exact ((Below.refl _ _).alloc (Nat.le_refl _) _).grown hgrow0 (by simp) (fun k hk => by cases hk)
    case round =>
      obtain ⟨k, hk, rfl, hinv⟩ := hrel
      by_cases hlt : k < n
      · obtain ⟨pb, po, ha0, hpb, hpc⟩ := HROW.out (by omega)
        subst ha0
        obtain ⟨kk, hkk⟩ : ∃ kk, Hid (kk = ks.getD k []) := ⟨_, rfl⟩
        have hl1 : kk.length = 20 := by rw [hkk.out]; exact HK.out k hlt
        have hrk := hidden (show wr.rangeAt pb (po + k * 20) (kk.map (Value.int .u8)) by rw [hkk.out]; exact rangeAt_below hinv.below hpb (hpc k hlt))
        have hI : (k : Int) < (n : Int) := by omega
        have HT := hidden (show wr.there (w.heap.size + 1) (k * 20) (bcells kk).size by
          have : (bcells kk).size = 20 := by simp [hl1]
          rw [this]; exact Rng.there_sub hinv.ksT _ _ (by omega))
        have HI := hidden hinv
        clear hinv hpc
        go_wp2_with (first
          | (refine wpList_load_mid rfl 33 _ rfl pb (po + k * 20) rfl (kk.map (Value.int .u8)) _ hrk.out Yba.underlying33 rfl (Rng.lenMap33 kk hl1) ?_)
          | (refine wpList_store_mid rfl 36 _ _ rfl (w.heap.size + 1) (k * 20) (bcells kk) rfl rfl HT.out (Rng.bcells_size36 kk hl1) (Rng.bcells_one _) ?_))
        go_roundw
        case rel => exact ⟨k + 1, by omega, by go_num, HI.out.step hlt (fun i hi => HK.out i (by omega)) kk hkk.out⟩
        case measure => simp [intOf]; omega
      · obtain rfl : k = n := by omega
        have HI := hidden hinv
        clear hinv
        have hlim : (size < 1 ∧ Hid (lim size = 20)) ∨ (¬ size < 1 ∧ Hid (lim size = size)) := by
          by_cases h : size < 1
          · exact .inl ⟨h, if_pos h⟩
          · exact .inr ⟨h, if_neg h⟩
        rcases hlim with ⟨hsz, hlim⟩ | ⟨hsz, hlim⟩
        all_goals
          go_wp2_with (first
            | (refine wpList_load_mid rfl 33 _ rfl (w.heap.size) 0 rfl (self.map (Value.int .u8)) _ HI.out.box Yba.underlying33 rfl (Rng.lenMap33 self hs) ?_)
            | (go_at_call 10; refine (choose_any size self ks k (w.heap.size + 1) _ hs (by omega) HK.out (by have := HI.out.hi; omega) HI.out.ks).mono ?_; rintro e w2 ⟨v, rfl, hown2, hbel2⟩))
          go_loopw [12, 13] (fun v i wr => ∃ j : Nat, j ≤ k ∧ i = .int .i64 j ∧ CntInv w2 wr (lim size) (bsOf self ks) j v) (fun _ i _ => k - (intOf i).toNat)
          case atStart => exact ⟨0, by omega, rfl, CntInv.start _ _ _⟩
          case round =>
            obtain ⟨j, hjk, rfl, hcnt⟩ := hrel
            have hsz1 := HI.out.below.size
            have hsz0 := HI.out.hi
            have hsz2 := hbel2.size
            have hsz3 := hcnt.below.size
            by_cases hlt : j < k
            · obtain ⟨kk, hkk⟩ : ∃ kk, Hid (kk = ks.getD j []) := ⟨_, rfl⟩
              have hl1 : kk.length = 20 := by rw [hkk.out]; exact HK.out j hlt
              have hself : wr.rangeAt w.heap.size 0 (self.map (Value.int .u8)) := rangeAt_below hcnt.below (by omega) (rangeAt_below hbel2 (by omega) HI.out.box)
              have hrk : wr.rangeAt (w.heap.size + 1) (j * 20) (kk.map (Value.int .u8)) := by rw [hkk.out]; exact rangeAt_below hcnt.below (by omega) (rangeAt_below hbel2 (by omega) (HI.out.ks j hlt))
              obtain ⟨q, hq⟩ : ∃ q, Hid (q = bsOf self ks j) := ⟨_, rfl⟩
              have hq' : q = hb self kk := by rw [hq.out, hkk.out]; rfl
              have hqr : -1 ≤ q ∧ q < 160 := by have := hb_range self kk; rw [hq']; omega
              obtain ⟨hq0, hq1⟩ := hqr
              have hcall : ∀ w, Hid (Calls Yba.prog 11 #[.agg (bcells self), .agg (bcells kk)] w fun e w' => e = .returned (.int .i64 q) ∧ Below w.heap.size w w') := fun w => by
                rw [hq']; exact bucket_any self kk w hs hl1
              clear hq'
              have hi1 := Rng.lenMap33 self hs
              have hi2 := lenMap kk hl1
              have hu := Yba.underlying36
              have hu3 := Yba.underlying33
              have hI : (j : Int) < (k : Int) := by omega
              have HC := hidden hcnt
              clear hcnt
              go_wp2
              refine wp_region_noPanic ?_
              refine wp_region_held_drew (S := fun w' => w'.rangeAt w.heap.size 0 (self.map (Value.int .u8)) ∧ w'.rangeAt (w.heap.size + 1) (j * 20) (kk.map (Value.int .u8))) (by kernel_rfl) ⟨hself, hrk⟩ (fun hHeld => ?_)
              refine wpAnyH_take (i := 0) rfl (by kernel_rfl) (by kernel_rfl) (by kernel_rfl) (fun _ _ _ h => h) (yieldsIf_load_mid (by rfl) _ _ rfl _ _ rfl _ _ (fun w h => h.1) hu3 rfl hi1) hHeld ?_
              simp only [Act.put, List.setIfInBounds_toArray, List.set_cons_zero, List.set_cons_succ]
              refine wpAnyH_take (i := 1) (v := .slice (some ⟨w.heap.size + 1, 0, none⟩) k k) rfl (by kernel_rfl) (by kernel_rfl) (by kernel_rfl) (fun _ _ _ h => h) (Or.inl ⟨by rfl, fun w _ => by go_simp⟩) hHeld ?_
              simp only [Act.put, List.setIfInBounds_toArray, List.set_cons_zero, List.set_cons_succ]
              refine wpAnyH_take (i := 2) (v := .int .i64 j) rfl (by kernel_rfl) (by kernel_rfl) (by kernel_rfl) (fun _ _ _ h => h) (Or.inl ⟨by rfl, fun w _ => by go_simp⟩) hHeld ?_
              simp only [Act.put, List.setIfInBounds_toArray, List.set_cons_zero, List.set_cons_succ]
              refine wpAnyH_take (i := 3) (v := .pointer (some ⟨w.heap.size + 1, j * 20, none⟩)) rfl (by kernel_rfl) (by kernel_rfl) (by kernel_rfl) (fun _ _ _ h => h) (Or.inl ⟨by rfl, fun w _ => by go_simp⟩) hHeld ?_
              simp only [Act.put, List.setIfInBounds_toArray, List.set_cons_zero, List.set_cons_succ]
              refine wpAnyH_take (i := 4) rfl (by kernel_rfl) (by kernel_rfl) (by kernel_rfl) (fun _ _ _ h => h) (yieldsIf_load_mid (by rfl) _ _ rfl _ _ rfl _ _ (fun w h => h.2) hu rfl hi2) hHeld ?_
              simp only [Act.put, List.setIfInBounds_toArray, List.set_cons_zero, List.set_cons_succ]
              refine wpAnyH_ready (rs := [5]) (by kernel_rfl) (by simp) ?_
              refine AllReadyH.cons rfl (fun K hK => ?_) AllReadyH.nil
              go_simp
              refine (hcall _).out.mono ?_
              rintro e w3 ⟨rfl, hbel⟩
              refine hK.out _ _ ⟨rangeAt_below hbel (by simp; omega) hself, rangeAt_below hbel (by simp; omega) hrk⟩ (fun hHeld => ?_)
              clear hK K
              refine wpAnyH_take (i := 6) (v := .int .i64 q) rfl (by kernel_rfl) (by kernel_rfl) (by kernel_rfl) (fun _ _ _ h => h) (Or.inl ⟨by rfl, fun w _ => by go_simp⟩) hHeld ?_
              refine wpAnyH_done (by kernel_rfl) ?_ _
              refine NoPanic.normal ?_
              clear hHeld hu hu3 hi1 hi2 hcall hself hrk
              have hcnt : CntInv w2 w3 (lim size) (bsOf self ks) j u12 := HC.out.later ((Below.drew (Below.refl _ _)).trans hbel)
              clear HC hbel
              obtain ⟨c, hc⟩ : ∃ c, Hid (c = (pick (lim size) (bsOf self ks) j).1.getD q.toNat 0) := ⟨_, rfl⟩
              have hcb : 0 ≤ c ∧ c ≤ j := by rw [hc.out]; exact pick_bd _ _ _ _
              obtain ⟨hc0, hc1⟩ := hcb
              have hfz := hcnt.frozen q.toNat
              by_cases hq2 : 0 ≤ q
              · have hcc : w3.cell? ⟨w2.heap.size, q.toNat, none⟩ = some (.int .i64 c) := by rw [hcnt.cell _ (by omega), hc.out]
                by_cases hyes : c < lim size
                · have hyes' := hyes
                  rw [hlim.out] at hyes'
                  have hol := pick_out (lim size) (bsOf self ks) j
                  have hown3 := hcnt.own2 q.toNat (.int .i64 (c + 1))
                  have hsz4 := hcnt.size
                  have HC := hidden hcnt
                  have hy := hidden hyes
                  clear hcnt hyes
                  go_wp2_with (at_builtin; go_must (refine wpList_append_own _ rfl _ _ 37 rfl (w2.heap.size + 1) 3 i0 (.int .i64 0) 1 8 Yba.underlying37 hi hz0 hz1 hz2 rfl (by decide) _ _ _ rfl (hown3.alloc _) ⟨w3.heap.size, 0, none⟩ 1 1 [.int .i64 j] rfl rfl (one_new_set _ _ _ _ _) (ints_oneCell .i64 [(j : Int)]) (by unfold maxLen; omega) (by omega) (by simp; omega) ?_); intro v' w4 hown4 hgrow hnil)
                  go_roundw
                  case rel => exact ⟨j + 1, by omega, by go_num, HC.out.yes hq.out hc.out hq2 hy.out hown4 hgrow⟩
                  case measure => simp [intOf]; omega
                · have hno' := hyes
                  rw [hlim.out] at hno'
                  have HC := hidden (hcnt.no (by rw [← hq.out, ← hc.out]; exact fun h => hyes h.2))
                  clear hcnt hyes
                  go_wp2
                  go_roundw
                  case rel => exact ⟨j + 1, by omega, by go_num, HC.out⟩
                  case measure => simp [intOf]; omega
              · have HC := hidden (hcnt.no (by rw [← hq.out, ← hc.out]; exact fun h => hq2 h.1))
                clear hcnt
                go_wp2
                go_roundw
                case rel => exact ⟨j + 1, by omega, by go_num, HC.out⟩
                case measure => simp [intOf]; omega
            · obtain rfl : j = k := by omega
              have hol := pick_out (lim size) (bsOf self ks) j
              have ho1 := hidden (owns_below hown2 hcnt.below)
              have hBB : Below w.heap.size w _ := (HI.out.below.trans (hbel2.mono hsz1)).trans (hcnt.below.mono (Nat.le_trans hsz1 hsz2))
              have ho2 := hidden hcnt.own
              clear hown2 hcnt hbel2
              go_wp2_with (go_at_call 12; refine (same_any _ _ _ _ _ _ (by omega) ho1.out ho2.out).mono ?_; rintro e w4 ⟨rfl, hb4⟩)
              go_ret
              exact ⟨rfl, hBB.trans (hb4.mono (by omega))⟩

end Go.Proofs.Ybulkavii
