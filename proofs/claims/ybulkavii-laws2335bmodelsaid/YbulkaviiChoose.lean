/-
  Seat b2335a, laws B: the contract of (Buckets).Choose (function 10).
-/
import Derived.Test.YbulkaviiBits
import Derived.Test.YbulkaviiPick
import Derived.Deep.RegionHeld3
namespace Go.Proofs.Ybulkavii
open Go.RowKit
set_option linter.unusedSimpArgs false

theorem Yba.info3 : (Yba.prog.info? 3).map (fun i => (i.zero, i.size, i.bytes)) = some (some (.int .i64 0), 1, 8) := by kernel_rfl
theorem Yba.size36 : (Yba.prog.info? 36).map (·.size) = some 20 := by kernel_rfl

/-- A row of ints as cells. -/
abbrev icells (a : List Int) : Array Value := (a.map (Value.int .i64)).toArray

theorem hb_range : ∀ a b : List Int, -1 ≤ hb a b ∧ hb a b < 8 * (a.length : Int)
  | x :: a, y :: b => by
    rw [hb]
    have h := hb_range a b
    have hr := bits_u8_range .xor x y
    have hl := bitLen_u8 _ hr.1 hr.2
    simp only [List.length_cons]
    split <;> omega
  | [], _ => by rw [hb.eq_def]; simp
  | _ :: _, [] => by rw [hb.eq_def]; simp; omega

theorem rangeAt_below {B : Nat} {w w' : World} (h : Below B w w') {b o : Nat} {cs : List Value} (hb : b < B) (hr : w.rangeAt b o cs) : w'.rangeAt b o cs := fun j v hv => by
  rw [h.cell (p := ⟨b, o + j, none⟩) hb]; exact hr j v hv

def lim (size : Int) : Int := if size < 1 then 20 else size

/-- What is owned stays owned behind a call that only lays new blocks. -/
theorem owns_below {w w' : World} {base : Nat} {e : TypeId} {size : Nat} {v : Value} {n : Nat} {xs : List Value} (h : w.ownsRow base e size v n xs) (hb : Below w.heap.size w w') : w'.ownsRow base e size v n xs :=
  h.kept (row := none) ⟨hb.os, hb.tape, hb.output, hb.size, fun k hk _ => hb.block k hk⟩ (by cases v.ownBlock <;> simp)

theorem icells_get (a : List Int) (j : Nat) (h : j < a.length) : (icells a)[j]? = some (.int .i64 (a.getD j 0)) := by
  simp [icells, List.getD, h]

theorem icells_set (a : List Int) (j : Nat) (x : Int) : (icells a).setIfInBounds j (.int .i64 x) = icells (a.set j x) := by
  simp [icells, List.map_set]

/-- The counters' block behind the store of one of them. -/
theorem cnt_set {w : World} {g : Nat} {a : List Int} {t : TypeId} (h : w.heap[g]? = some (.cells (icells a) t (0, 0))) (j : Nat) (x : Int) :
    (w.setCell ⟨g, j, none⟩ (.int .i64 x)).heap[g]? = some (.cells (icells (a.set j x)) t (0, 0)) := by
  rw [heap_setCell_same w g j (icells a) t _ h, icells_set]

theorem rangeAt_setCell_other {w : World} {b o : Nat} {cs : List Value} (h : w.rangeAt b o cs) {a : Addr} (hne : b ≠ a.block) (u : Value) : (w.setCell a u).rangeAt b o cs := fun j v hv => by
  have hb : (w.setCell a u).heap[b]? = w.heap[b]? := heap_setCell_other w a b u hne
  rw [World.cell?_of_block (w := w) (a := ⟨b, o + j, none⟩) hb]; exact h j v hv
theorem ownsRow_mono {w : World} {base base' : Nat} {e : TypeId} {size : Nat} {v : Value} {n : Nat} {xs : List Value} (h : w.ownsRow base e size v n xs) (hb : base' ≤ base) : w.ownsRow base' e size v n xs := by
  obtain ⟨h1, h2⟩ := h
  refine ⟨h1, ?_⟩
  rcases h2 with h2 | ⟨g, cap, cur, hv, hg, r⟩
  · exact .inl h2
  · exact .inr ⟨g, cap, cur, hv, by omega, r⟩

theorem size_setCell (w : World) (a : Addr) (u : Value) : (w.setCell a u).heap.size = w.heap.size := by simp [World.setCell]
theorem one_new_set (w : World) (a : Addr) (u x : Value) (t : TypeId) : ∀ (j : Nat) (y : Value), [x][j]? = some y → ((w.setCell a u).alloc (.cells #[x] t)).cell? ((⟨w.heap.size, 0, none⟩ : Addr).add j) = some y := by
  have h := cell_one_new (w.setCell a u) x t
  rw [size_setCell] at h
  exact h

theorem size_alloc (w : World) (o : Obj) : (w.alloc o).heap.size = w.heap.size + 1 := by simp
theorem heap3_first (w : World) (a b c : Obj) : (((w.alloc a).alloc b).alloc c).heap[w.heap.size]? = some a := by
  rw [Below.heap_alloc _ _ _ (by simp; omega), Below.heap_alloc _ _ _ (by simp), heap_alloc_new]
theorem heap3_second (w : World) (a b c : Obj) : (((w.alloc a).alloc b).alloc c).heap[w.heap.size + 1]? = some b := by
  rw [Below.heap_alloc _ _ _ (by simp)]
  have h := heap_alloc_new (w.alloc a) b
  rwa [size_alloc] at h
theorem heap3_third (w : World) (a b c : Obj) : (((w.alloc a).alloc b).alloc c).heap[w.heap.size + 1 + 1]? = some c := by
  have h := heap_alloc_new ((w.alloc a).alloc b) c
  rwa [size_alloc, size_alloc] at h
theorem below_grown {W w2 : World} {o : Obj} {base : Nat} {e : TypeId} {size : Nat} {v : Value} {n : Nat} {xs : List Value} (hg : (W.alloc o).grownBy w2 v.ownBlock) (hown : W.ownsRow base e size v n xs) (hB : base ≤ W.heap.size) : Below base W w2 :=
  ((Below.refl _ _).alloc hB o).grown hg (by rw [size_alloc]; omega) (fun k hk => (hown.lt k hk).1)
theorem rangeAt_of_block {w : World} {b : Nat} {cs : List Value} {t : TypeId} {fr : Nat × Nat} (h : w.heap[b]? = some (.cells cs.toArray t fr)) : w.rangeAt b 0 cs := fun j v hv => by
  rw [cell_of_row _ _ _ _ _ _ h]; simpa using hv
theorem zero160 : Yba.zeroCells41 = icells (List.replicate 160 0) := by kernel_rfl

/-- The bucket of each known node. -/
def bsOf (self : List Int) (ks : List (List Int)) (i : Nat) : Int := hb self (ks.getD i [])

theorem lenMap (a : List Int) (h : a.length = 20) : (Yba.prog.info? 36).map (·.size) = some (a.map (Value.int .u8)).length := by
  rw [Yba.size36]; simp [h]

set_option maxHeartbeats 400000 in
set_option maxRecDepth 100000 in
theorem choose_any (size : Int) (self : List Int) (ks : List (List Int)) (n b : Nat) (w : World) (hs : self.length = 20) (hn : n ≤ 1024) (hk : ∀ i, i < n → (ks.getD i []).length = 20)
    (hb' : b < w.heap.size) (hr : ∀ i, i < n → w.rangeAt b (i * 20) ((ks.getD i []).map (Value.int .u8))) :
    Calls Yba.prog 10 #[.agg #[.int .i64 size], .agg (bcells self), .slice (some ⟨b, 0, none⟩) n n] w fun e w' => ∃ v, e = .returned v ∧
      w'.ownsRow w.heap.size 3 1 v (pick (lim size) (bsOf self ks) n).2.length ((pick (lim size) (bsOf self ks) n).2.map (Value.int .i64)) ∧ Below w.heap.size w w' := by
  obtain ⟨i0, hi, hz0, hz1, hz2⟩ := info_parts Yba.info3
  have hlim : (size < 1 ∧ Hid (lim size = 20)) ∨ (¬ size < 1 ∧ Hid (lim size = size)) := by
    by_cases h : size < 1
    · exact .inl ⟨h, if_pos h⟩
    · exact .inr ⟨h, if_neg h⟩
  have HR := hidden hr
  have HK := hidden hk
  clear hr hk
  rcases hlim with ⟨hsz, hlim⟩ | ⟨hsz, hlim⟩
  all_goals
    go_enter Yba.func10, Yba.ntmps10
    go_wp2_with (at_make; refine wpList_make_own _ rfl _ _ 37 rfl (w.heap.size + 3) 3 i0 (.int .i64 0) 1 Yba.underlying37 hi hz0 hz1 .i64 .i64 _ n rfl rfl (by omega) (by rw [hz2]; omega) (by unfold maxLen; omega) (by simp) ?_; intro w0 hown0 hgrow0)
    go_loopw [9, 21] (fun v i wr => ∃ k : Nat, k ≤ n ∧ i = .int .i64 k ∧ wr.ownsRow (w.heap.size + 3) 3 1 v (pick (lim size) (bsOf self ks) k).2.length ((pick (lim size) (bsOf self ks) k).2.map (Value.int .i64)) ∧
        wr.heap[w.heap.size + 1 + 1]? = some (.cells (icells (pick (lim size) (bsOf self ks) k).1) 41 (0, 0)) ∧ wr.rangeAt (w.heap.size + 1) 0 (self.map (Value.int .u8)) ∧ Below w.heap.size w wr ∧ w.heap.size + 3 ≤ wr.heap.size)
      (fun _ i _ => n - (intOf i).toNat)
    case atStart =>
      rw [size_alloc, size_alloc, size_alloc] at hown0
      refine ⟨0, by omega, rfl, hown0, ?_, ?_, ?_, ?_⟩
      · rw [hgrow0.block _ (by simp) (by simp), heap3_third, zero160]; rfl
      · refine rangeAt_of_block (t := 36) (fr := (0, 0)) ?_
        rw [hgrow0.block _ (by simp) (by simp), heap3_second]
      · exact ((((Below.refl _ _).alloc (Nat.le_refl _) _).alloc (by simp) _).alloc (by simp; omega) _).grown hgrow0 (by simp; omega) (fun k hk => by cases hk)
      · have := hgrow0.size; simp at this; omega
    case round =>
      obtain ⟨k, hkn, rfl, hown, hcnt, hself, hnx, hsize⟩ := hrel
      by_cases hlt : k < n
      · obtain ⟨kk, hkk⟩ : ∃ kk, Hid (kk = ks.getD k []) := ⟨_, rfl⟩
        have hl1 : kk.length = 20 := by rw [hkk.out]; exact HK.out k hlt
        have hrk : wr.rangeAt b (k * 20) (kk.map (Value.int .u8)) := by rw [hkk.out]; exact rangeAt_below hnx hb' (HR.out k hlt)
        obtain ⟨q, hq⟩ : ∃ q, Hid (q = bsOf self ks k) := ⟨_, rfl⟩
        have hq' : q = hb self kk := by rw [hq.out, hkk.out]; rfl
        have hqr : -1 ≤ q ∧ q < 160 := by have := hb_range self kk; rw [hq']; omega
        obtain ⟨hq0, hq1⟩ := hqr
        have hcall : ∀ w, Hid (Calls Yba.prog 26 #[.agg (bcells self), .agg (bcells kk)] w fun e w' => e = .returned (.int .i64 q) ∧ Below w.heap.size w w') := fun w => by
          rw [hq']; exact highBit_any self kk w hs hl1
        clear hq'
        have hi1 := lenMap self hs
        have hi2 := lenMap kk hl1
        have hu := Yba.underlying36
        have hI : (k : Int) < (n : Int) := by omega
        go_wp2
        refine wp_region_noPanic ?_
        refine wp_region_held_drew (S := fun w' => w'.rangeAt (w.heap.size + 1) 0 (self.map (Value.int .u8)) ∧ w'.rangeAt b (k * 20) (kk.map (Value.int .u8))) (by kernel_rfl) ⟨hself, hrk⟩ (fun hHeld => ?_)
        refine wpAnyH_take (i := 0) rfl (by kernel_rfl) (by kernel_rfl) (by kernel_rfl) (fun _ _ _ h => h) (yieldsIf_load_mid (by rfl) _ _ rfl _ _ rfl _ _ (fun w h => h.1) hu rfl hi1) hHeld ?_
        simp only [Act.put, List.setIfInBounds_toArray, List.set_cons_zero, List.set_cons_succ]
        refine wpAnyH_take (i := 1) (v := .slice (some ⟨b, 0, none⟩) n n) rfl (by kernel_rfl) (by kernel_rfl) (by kernel_rfl) (fun _ _ _ h => h) (Or.inl ⟨by rfl, fun w _ => by go_simp⟩) hHeld ?_
        simp only [Act.put, List.setIfInBounds_toArray, List.set_cons_zero, List.set_cons_succ]
        refine wpAnyH_take (i := 2) (v := .int .i64 k) rfl (by kernel_rfl) (by kernel_rfl) (by kernel_rfl) (fun _ _ _ h => h) (Or.inl ⟨by rfl, fun w _ => by go_simp⟩) hHeld ?_
        simp only [Act.put, List.setIfInBounds_toArray, List.set_cons_zero, List.set_cons_succ]
        refine wpAnyH_take (i := 3) (v := .pointer (some ⟨b, k * 20, none⟩)) rfl (by kernel_rfl) (by kernel_rfl) (by kernel_rfl) (fun _ _ _ h => h) (Or.inl ⟨by rfl, fun w _ => by go_simp⟩) hHeld ?_
        simp only [Act.put, List.setIfInBounds_toArray, List.set_cons_zero, List.set_cons_succ]
        refine wpAnyH_take (i := 4) rfl (by kernel_rfl) (by kernel_rfl) (by kernel_rfl) (fun _ _ _ h => h) (yieldsIf_load_mid (by rfl) _ _ rfl _ _ rfl _ _ (fun w h => h.2) hu rfl hi2) hHeld ?_
        simp only [Act.put, List.setIfInBounds_toArray, List.set_cons_zero, List.set_cons_succ]
        refine wpAnyH_ready (rs := [5]) (by kernel_rfl) (by simp) ?_
        refine AllReadyH.cons rfl (fun K hK => ?_) AllReadyH.nil
        go_simp
        refine (hcall _).out.mono ?_
        rintro e w1 ⟨rfl, hbel⟩
        refine hK.out _ _ ⟨rangeAt_below hbel (by simp; omega) hself, rangeAt_below hbel (by have := hnx.size; simp; omega) hrk⟩ (fun hHeld => ?_)
        clear hK K
        refine wpAnyH_take (i := 6) (v := .int .i64 q) rfl (by kernel_rfl) (by kernel_rfl) (by kernel_rfl) (fun _ _ _ h => h) (Or.inl ⟨by rfl, fun w _ => by go_simp⟩) hHeld ?_
        refine wpAnyH_done (by kernel_rfl) ?_ _
        refine NoPanic.normal ?_
        have hself1 := hHeld.1
        clear hHeld hu hi1 hi2 hcall hself hrk
        have hown1 : w1.ownsRow (w.heap.size + 3) 3 1 u9 _ _ := owns_below (w := wr.drew) (hown.drew) hbel
        have hcnt1 : w1.heap[w.heap.size + 1 + 1]? = _ := (hbel.block _ (by simp; omega)).trans hcnt
        have hnx1 : Below w.heap.size w w1 := hnx.trans ((Below.drew (Below.refl _ _)).trans (hbel.mono (by have := hnx.size; simp; omega)))
        have hsize1 : w.heap.size + 3 ≤ w1.heap.size := by have := hbel.size; simp at this; omega
        clear hbel hown hcnt hnx hsize
        obtain ⟨c, hc⟩ : ∃ c, Hid (c = (pick (lim size) (bsOf self ks) k).1.getD q.toNat 0) := ⟨_, rfl⟩
        have hcb : 0 ≤ c ∧ c ≤ k := by rw [hc.out]; exact pick_bd _ _ _ _
        obtain ⟨hc0, hc1⟩ := hcb
        have hlen := pick_len (lim size) (bsOf self ks) k
        have HL := hidden hlen
        clear hlen
        have hcell : 0 ≤ q → w1.cell? ⟨w.heap.size + 1 + 1, q.toNat, none⟩ = some (.int .i64 c) := fun h => by
          rw [cell_of_row _ _ _ _ _ _ hcnt1, icells_get _ _ (by rw [HL.out]; omega), hc.out]
        have hfz : w1.frozen? ⟨w.heap.size + 1 + 1, q.toNat, none⟩ = false := frozen_of_row _ _ _ _ _ hcnt1
        have HC := hidden hcnt1
        clear hcnt1
        by_cases hq2 : 0 ≤ q
        · have hc2 := hcell hq2
          clear hcell
          by_cases hyes : c < lim size
          · have hyes' := hyes
            rw [hlim.out] at hyes'
            have hol := pick_out (lim size) (bsOf self ks) k
            have hown2 := ownsRow_setCell_below hown1 (a := ⟨w.heap.size + 1 + 1, q.toNat, none⟩) (by show w.heap.size + 1 + 1 < w.heap.size + 3; omega) (.int .i64 (c + 1))
            have hnx2 := hnx1.setCell (p := ⟨w.heap.size + 1 + 1, q.toNat, none⟩) (by show w.heap.size ≤ w.heap.size + 1 + 1; omega) (.int .i64 (c + 1))
            have hcnt2 := hidden (cnt_set HC.out q.toNat (c + 1))
            have hself2 := hidden (rangeAt_setCell_other hself1 (a := ⟨w.heap.size + 1 + 1, q.toNat, none⟩) (by show w.heap.size + 1 ≠ w.heap.size + 1 + 1; omega) (.int .i64 (c + 1)))
            have HP := hidden (pick_yes (lim := lim size) (bs := bsOf self ks) (k := k) (by rw [← hq.out]; exact hq2) (by rw [← hq.out, ← hc.out]; exact hyes))
            rw [← hq.out, ← hc.out] at HP
            clear hown1 hself1 hyes
            go_wp2_with (at_builtin; go_must (refine wpList_append_own _ rfl _ _ 37 rfl (w.heap.size + 3) 3 i0 (.int .i64 0) 1 8 Yba.underlying37 hi hz0 hz1 hz2 rfl (by decide) _ _ _ rfl (hown2.alloc _) ⟨w1.heap.size, 0, none⟩ 1 1 [.int .i64 k] rfl rfl (one_new_set _ _ _ _ _) (ints_oneCell .i64 [(k : Int)]) (by unfold maxLen; omega) (by omega) (by simp; omega) ?_); intro v' w2 hown3 hgrow hnil)
            go_roundw
            case rel =>
              have hB := below_grown hgrow hown2 (by rw [size_setCell]; omega)
              refine ⟨k + 1, by omega, by go_num, ?_, ?_, rangeAt_below hB (by omega) hself2.out, hnx2.trans (hB.mono (by omega)), ?_⟩
              · rw [HP.out.2]; simpa using hown3
              · rw [hB.block _ (by omega), HP.out.1]; exact hcnt2.out
              · have := hB.size; rw [size_setCell] at this; omega
            case measure => simp [intOf]; omega
          · have hno' := hyes
            rw [hlim.out] at hno'
            have HP := hidden (pick_no (lim := lim size) (bs := bsOf self ks) (k := k) (by rw [← hq.out, ← hc.out]; exact fun h => hyes h.2))
            go_wp2
            go_roundw
            case rel => exact ⟨k + 1, by omega, by go_num, by rw [HP.out]; exact hown1, by rw [HP.out]; exact HC.out, hself1, hnx1, hsize1⟩
            case measure => simp [intOf]; omega
        · clear hcell
          have HP := hidden (pick_no (lim := lim size) (bs := bsOf self ks) (k := k) (by rw [← hq.out, ← hc.out]; exact fun h => hq2 h.1))
          go_wp2
          go_roundw
          case rel => exact ⟨k + 1, by omega, by go_num, by rw [HP.out]; exact hown1, by rw [HP.out]; exact HC.out, hself1, hnx1, hsize1⟩
          case measure => simp [intOf]; omega
      · obtain rfl : k = n := by omega
        go_wp2
        go_ret
        exact ⟨_, rfl, ownsRow_mono hown (by omega), hnx⟩

end Go.Proofs.Ybulkavii
