/-
  Seat b2335a: the walk of LawS2335BFlips (function 7).
-/
import Derived.Test.YbulkaviiCnt
import Derived.Test.YbulkaviiSame
import Derived.Test.YbulkaviiFlipP
import Derived.Deep.WholeRow
namespace Go.Proofs.Ybulkavii
open Go.RowKit
set_option linter.unusedSimpArgs false

theorem Yba.info36 : (Yba.prog.info? 36).map (fun i => (i.zero, i.size, i.bytes)) = some (some (.agg (bcells (List.replicate 20 0))), 20, 20) := by kernel_rfl
theorem Yba.size33 : (Yba.prog.info? 33).map (·.size) = some 20 := by kernel_rfl
theorem lenMap33 (a : List Int) (h : a.length = 20) : (Yba.prog.info? 33).map (·.size) = some (a.map (Value.int .u8)).length := by
  rw [Yba.size33]; simp [h]

/-- The bit that pick number i chooses. -/
def selOf (zs : List Int) (i : Nat) : Int := zs.getD i 0 % 161

/-- Its bucket. -/
def fbs (zs : List Int) (i : Nat) : Int := if selOf zs i = 160 then -1 else selOf zs i

structure FlipInv (w wr : World) (me zs : List Int) (n g k : Nat) : Prop where
  box : wr.rangeAt w.heap.size 0 (me.map (Value.int .u8))
  ks : ∀ i, i < k → wr.rangeAt (w.heap.size + 1) (i * 20) ((flip me (selOf zs i)).map (Value.int .u8))
  ksT : wr.there (w.heap.size + 1) 0 (n * 20)
  sels : ∀ i, i < k → wr.cell? ⟨g, i, none⟩ = some (.int .i64 (selOf zs i))
  selsT : wr.there g 0 n
  below : Below w.heap.size w wr
  lo : w.heap.size + 2 ≤ g
  hi : g < wr.heap.size

/-- A whole array into the block that was made last. -/
theorem wpList_store_new {P : Program} {ops : Array Oper} {rest : List Oper} {op : Oper} {a : Act} {w : World} {Q : Exit → Act → World → Prop} (hgd : op.guard = none) (ty : TypeId) (x y : Operand) (ho : op.op = .store ty x y)
    (W : World) (g : Nat) (c c' : Array Value) (hg : W.heap.size = g) (hw : w = W.alloc (.cells c ty)) (hx : a.eval x = .pointer (some ⟨g, 0, none⟩)) (hy : a.eval y = .agg c')
    (hi : (P.info? ty).map (·.size) = some c'.size) (hsz : c.size = c'.size) (h1 : c'.all (·.oneCell') = true)
    (h : wpList P ops Q rest (a.put op.dst undef) (W.alloc (.cells c' ty))) : wpList P ops Q (op :: rest) a w := by
  subst hw
  subst hg
  refine wpList_plain hgd fun _ hK => ?_
  unfold Oper.wp execOp
  simp only [ho, hx, hy, Instr.storeAt, Instr.sureAddr, Sem.run_bind, Sem.run_pure, Result.andThen_ok, run_storeVar_new W ty c c' hi hsz h1]
  exact hK _ _ h

theorem bcells_one (a : List Int) : (bcells a).all (·.oneCell') = true := by
  refine all_oneCell_toArray (fun v hv => ?_)
  simp at hv
  obtain ⟨x, _, rfl⟩ := hv
  rfl
theorem bcells_set (a : List Int) (j : Nat) (x : Int) : (bcells a).setIfInBounds j (.int .u8 x) = bcells (a.set j x) := by
  simp [bcells, List.map_set]
theorem bcells_oneSet (a : List Int) (j : Nat) (x : Int) : ((a.map (Value.int .u8)).set j (.int .u8 x)).toArray.all (·.oneCell') = true := by
  rw [← List.map_set]; exact bcells_one _
theorem pow_mod (m : Int) (h0 : 0 ≤ m) (h1 : m < 8) : (2 : Int) ^ m.toNat % 256 = 2 ^ m.toNat := by
  obtain ⟨p0, p1, _⟩ := pow2_range m.toNat (by omega)
  omega
/-- The row as the walk spells it, with its bit turned. -/
theorem flip_cells {self zs : List Int} {k : Nat} {z x : Int} (hz : z = zs.getD k 0) (hx : x = self.getD (19 - z % 161 / 8).toNat 0) (h : z % 161 < 160) :
    self.set (19 - z % 161 / 8).toNat (bits .xor .u8 x (2 ^ (z % 161 % 8).toNat % 256)) = flip self (selOf zs k) := by
  unfold flip selOf
  rw [← hz, if_neg (by omega), pow_mod _ (by omega) (by omega), hx]
theorem bcells_size36 (a : List Int) (h : a.length = 20) : (Yba.prog.info? 36).map (·.size) = some (bcells a).size := by
  rw [Yba.size36]; simp [h]

theorem there_setCell {w : World} {b o n : Nat} (h : w.there b o n) (c d : Nat) (u : Value) : (w.setCell ⟨c, d, none⟩ u).there b o n := World.there_setCells h c d [u]

theorem heap_alloc_at (w : World) (o : Obj) (g : Nat) (h : w.heap.size = g) : (w.alloc o).heap[g]? = some o := by subst h; exact heap_alloc_new w o

theorem below_setCells {B : Nat} (b : Nat) : ∀ (vs : List Value) (o : Nat) (w : World), B ≤ b → Below B w (w.setCells b o vs)
  | [], _, _, _ => Below.refl _ _
  | v :: r, o, w, h => by
    rw [World.setCells]
    exact ((Below.refl _ _).setCell (p := ⟨b, o, none⟩) h v).trans (below_setCells b r (o + 1) _ h)
theorem size_setCells (b : Nat) : ∀ (vs : List Value) (o : Nat) (w : World), (w.setCells b o vs).heap.size = w.heap.size
  | [], _, _ => rfl
  | v :: r, o, w => by rw [World.setCells, size_setCells b r, size_setCell]
theorem there_sub {w : World} {b n : Nat} (h : w.there b 0 n) (o m : Nat) (hm : o + m ≤ n) : w.there b o m := fun j hj => by
  have := h (o + j) (by omega)
  rwa [Nat.zero_add] at this

theorem FlipInv.step {w wr : World} {me zs : List Int} {n g k : Nat} (h : FlipInv w wr me zs n g k) (hk : k < n) (K : List Int) (hl : K.length = 20) (hK : K = flip me (selOf zs k)) (s : Int) (hs : s = selOf zs k) :
    FlipInv w (((wr.setCell ⟨g, k, none⟩ (.int .i64 s)).alloc (.cells (bcells K) 36)).setCells (w.heap.size + 1) (k * 20) (K.map (Value.int .u8))) me zs n g (k + 1) := by
  have hlo := h.lo
  have hhi := h.hi
  have hlen : (K.map (Value.int .u8)).length = 20 := by simp [hl]
  have htS : ((wr.setCell ⟨g, k, none⟩ (.int .i64 s)).alloc (.cells (bcells K) 36)).there (w.heap.size + 1) (k * 20) 20 := there_sub (World.there_alloc (there_setCell h.ksT _ _ _) _) _ _ (by omega)
  have hcell : ∀ x : Addr, x.block ≠ w.heap.size + 1 → (((wr.setCell ⟨g, k, none⟩ (.int .i64 s)).alloc (.cells (bcells K) 36)).setCells (w.heap.size + 1) (k * 20) (K.map (Value.int .u8))).cell? x = ((wr.setCell ⟨g, k, none⟩ (.int .i64 s)).alloc (.cells (bcells K) 36)).cell? x := fun x hx =>
    World.cell?_setCells_out _ _ _ _ _ (fun e => absurd e hx)
  refine ⟨?_, ?_, World.there_setCells (World.there_alloc (there_setCell h.ksT _ _ _) _) _ _ _, ?_, World.there_setCells (World.there_alloc (there_setCell h.selsT _ _ _) _) _ _ _, ?_, hlo, ?_⟩
  · exact World.rangeAt_setCells_apart (World.rangeAt_alloc (rangeAt_setCell_other h.box (by show w.heap.size ≠ g; omega) _) _) _ _ _ (.inl (by omega))
  · intro i hi
    by_cases hik : i = k
    · subst hik
      rw [← hK]
      exact World.rangeAt_setCells_same _ _ _ _ (by rw [hlen]; exact htS)
    · refine World.rangeAt_setCells_apart (World.rangeAt_alloc (rangeAt_setCell_other (h.ks i (by omega)) (by show w.heap.size + 1 ≠ g; omega) _) _) _ _ _ (.inr (.inl ?_))
      rw [List.length_map, flip_len]
      have : me.length = 20 := by rw [hK, flip_len] at hl; exact hl
      omega
  · intro i hi
    rw [hcell _ (by show g ≠ w.heap.size + 1; omega)]
    rw [World.cell?_alloc_lt _ _ _ (by show g < _; rw [size_setCell]; exact hhi)]
    obtain ⟨u, hu⟩ := Option.isSome_iff_exists.1 (h.selsT k hk).1
    rw [Nat.zero_add] at hu
    by_cases hik : i = k
    · subst hik
      rw [World.cell?_setCell_same _ _ _ hu, hs]
    · rw [World.cell?_setCell_other _ _ _ _ (by intro e; injection e with _ e2 _; exact hik e2.symm)]
      exact h.sels i (by omega)
  · have hb := ((h.below.setCell (p := ⟨g, k, none⟩) (by show w.heap.size ≤ g; omega) (.int .i64 s)).alloc (by rw [size_setCell]; omega) (.cells (bcells K) 36))
    exact hb.trans (below_setCells _ _ _ _ (by omega))
  · rw [size_setCells, size_alloc, size_setCell]; omega

theorem owns_there {w : World} {base g : Nat} {e : TypeId} {size n cap : Nat} {xs : List Value} (h : w.ownsRow base e size (.slice (some ⟨g, 0, none⟩) n cap) n xs) : w.there g 0 (n * size) := fun j hj => by
  rcases h.2 with ⟨h0, _⟩ | ⟨g', cap', cur, hv, _, hg, hn, _, hs, _⟩
  · cases h0
  · injection hv with h1 _ h2
    injection h1 with h1
    injection h1 with h1 _ _
    subst h1 h2
    have hj' : j < cur.size := by rw [hs]; exact Nat.lt_of_lt_of_le hj (Nat.mul_le_mul_right _ hn)
    rw [Nat.zero_add]
    exact ⟨by rw [cell_of_row _ _ _ _ _ _ hg]; simp [hj'], frozen_of_row _ _ _ _ _ hg⟩

set_option maxHeartbeats 1000000 in
set_option maxRecDepth 100000 in
theorem flips_walk (size : Int) (self zs : List Int) (a0 : Option Addr) (n cap : Nat) (w : World) (hs : self.length = 20) (hsx : ∀ x ∈ self, 0 ≤ x ∧ x ≤ 255)
    (hrow : 0 < n → ∃ pb po, a0 = some ⟨pb, po, none⟩ ∧ pb < w.heap.size ∧ ∀ j, j < n → w.cell? ⟨pb, po + j, none⟩ = some (.int .u16 (zs.getD j 0))) (hz : ∀ j, 0 ≤ zs.getD j 0 ∧ zs.getD j 0 ≤ 65535) :
    Calls Yba.prog 7 #[.int .i64 size, .agg (bcells self), .slice a0 n cap] w fun e w' => e = .returned (.bool true) ∧ Below w.heap.size w w' := by
  obtain ⟨i0, hi, hz0, hz1, hz2⟩ := info_parts Yba.info3
  obtain ⟨j0, hj, hy0, hy1, hy2⟩ := info_parts Yba.info36
  have HROW := hidden hrow
  have HZ := hidden hz
  have HSX := hidden hsx
  clear hrow hz hsx
  by_cases hn : 1024 < n
  · have hnI : (1024 : Int) < (n : Int) := by omega
    go_enter Yba.func7, Yba.ntmps7
    go_wp2
    go_ret
    exact ⟨rfl, (Below.refl _ _).alloc (Nat.le_refl _) _⟩
  · have hnI : ¬ (1024 : Int) < (n : Int) := by omega
    go_enter Yba.func7, Yba.ntmps7
    go_wp2_with (first | (at_make; refine wpList_make_full _ rfl _ _ 35 rfl (w.heap.size + 1) 36 j0 _ 20 Yba.underlying35 hj hy0 hy1 .i64 .i64 _ _ n rfl rfl rfl rfl (by rw [hy2]; omega) (by unfold maxLen; omega) (by simp) ?_; intro w0 hown0 hgrow0) | (at_make; go_must (refine wpList_make_full _ rfl _ _ 37 rfl (w.heap.size + 2) 3 i0 _ 1 Yba.underlying37 hi hz0 hz1 .i64 .i64 _ _ n rfl rfl rfl rfl (by rw [hz2]; omega) (by unfold maxLen; omega) (by have := (hown0.lt _ rfl).2; simp at this; omega) ?_); intro w1 hown1 hgrow1))
    go_loopw [9] (fun i wr => ∃ k : Nat, k ≤ n ∧ i = .int .i64 k ∧ FlipInv w wr self zs n w0.heap.size k) (fun i _ => n - (intOf i).toNat)
    case atStart =>
      rw [size_alloc] at hown0
      have hlt0 : w.heap.size + 1 < w0.heap.size := (hown0.lt _ rfl).2
      have hlt1 : w0.heap.size < w1.heap.size := (hown1.lt _ rfl).2
      refine ⟨0, by omega, rfl, ⟨?_, fun i hi => absurd hi (by omega), ?_, fun i hi => absurd hi (by omega), ?_, ?_, by omega, hlt1⟩⟩
      · refine rangeAt_of_block (t := 33) (fr := (0, 0)) ?_
        rw [hgrow1.block _ (by omega) (by simp), hgrow0.block _ (by simp) (by simp), heap_alloc_new]
      · exact owns_there (hown0.kept hgrow1 (by right; simp [Value.ownBlock]))
      · have := owns_there hown1
        rwa [Nat.mul_one] at this
      · exact (((Below.refl _ _).alloc (Nat.le_refl _) _).grown hgrow0 (by simp) (fun k hk => by cases hk)).grown hgrow1 (by omega) (fun k hk => by cases hk)
    case round =>
      obtain ⟨k, hk, rfl, hinv⟩ := hrel
      by_cases hlt : k < n
      · obtain ⟨pb, po, ha0, hpb, hpc⟩ := HROW.out (by omega)
        subst ha0
        obtain ⟨z, hz⟩ : ∃ z, Hid (z = zs.getD k 0) := ⟨_, rfl⟩
        have hzr : 0 ≤ z ∧ z ≤ 65535 := by rw [hz.out]; exact HZ.out k
        obtain ⟨hz3, hz4⟩ := hzr
        have hc : wr.cell? ⟨pb, po + k, none⟩ = some (.int .u16 z) := by rw [hinv.below.cell (p := ⟨pb, po + k, none⟩) hpb, hz.out]; exact hpc k hlt
        have hcs := hinv.selsT k hlt
        rw [Nat.zero_add] at hcs
        obtain ⟨hcs1, hcs2⟩ := hcs
        obtain ⟨u, hcs1⟩ := Option.isSome_iff_exists.1 hcs1
        have hI : (k : Int) < (n : Int) := by omega
        have HI := hidden hinv
        clear hinv hpc
        by_cases hsel : z % 161 = 160
        · have hselB : (z % 161 != 160) = false := by simp [hsel]
          have hsel' := hidden hsel
          clear hsel
          have tok : True := trivial
          go_wp2_with (first
            | (refine wpList_load_mid rfl 33 _ rfl (w.heap.size) 0 rfl (self.map (Value.int .u8)) _ (rangeAt_setCell_other HI.out.box (by have := HI.out.lo; show w.heap.size ≠ w0.heap.size; omega) _) Yba.underlying33 rfl (lenMap33 self hs) ?_)
            | (have _t := tok; refine wpList_store_new rfl 36 _ _ rfl (wr.setCell ⟨w0.heap.size, k, none⟩ (.int .i64 (z % 161))) wr.heap.size _ (bcells self) (size_setCell _ _ _) rfl rfl rfl (bcells_size36 self hs) (by simp [hs]) (bcells_one _) ?_; clear tok)
            | (refine wpList_load_row rfl 36 _ rfl wr.heap.size rfl 36 (bcells self) (0, 0) _ (heap_alloc_at _ _ _ (size_setCell _ _ _)) Yba.underlying36 rfl (bcells_size36 self hs) ?_)
            | (refine wpList_store_mid rfl 36 _ _ rfl (w.heap.size + 1) (k * 20) (bcells self) rfl rfl ?_ (bcells_size36 self hs) (bcells_one _) ?_))
          · exact there_sub (World.there_alloc (there_setCell HI.out.ksT _ _ _) _) _ _ (by simp [hs]; omega)
          · go_roundw
            case rel => exact ⟨k + 1, by omega, by go_num, HI.out.step hlt self hs (by unfold flip selOf; rw [← hz.out, if_pos hsel'.out]) _ (by unfold selOf; rw [← hz.out])⟩
            case measure => simp [intOf]; omega
        · have hselB : (z % 161 != 160) = true := by simp [hsel]
          have hs2 : z % 161 < 160 := by omega
          clear hsel
          obtain ⟨x, hx⟩ : ∃ x, Hid (x = self.getD (19 - z % 161 / 8).toNat 0) := ⟨_, rfl⟩
          have hcx : ((wr.setCell ⟨w0.heap.size, k, none⟩ (.int .i64 (z % 161))).alloc (.cells (bcells self) 36)).cell? ⟨wr.heap.size, (19 - z % 161 / 8).toNat, none⟩ = some (.int .u8 x) := by
            rw [cell_of_row _ _ _ _ _ _ (heap_alloc_at _ _ _ (size_setCell _ _ _)), bcells_get _ _ (by rw [hs]; omega), hx.out]
          have HH := hidden (heap_alloc_at (wr.setCell ⟨w0.heap.size, k, none⟩ (.int .i64 (z % 161))) (.cells (((self.map (Value.int .u8)).set (19 - z % 161 / 8).toNat (.int .u8 (bits .xor .u8 x (2 ^ (z % 161 % 8).toNat % 256)))).toArray) 36) wr.heap.size (size_setCell _ _ _))
          have tok : True := trivial
          go_wp2_with (first
            | (refine wpList_load_mid rfl 33 _ rfl (w.heap.size) 0 rfl (self.map (Value.int .u8)) _ (rangeAt_setCell_other HI.out.box (by have := HI.out.lo; show w.heap.size ≠ w0.heap.size; omega) _) Yba.underlying33 rfl (lenMap33 self hs) ?_)
            | (have _t := tok; refine wpList_store_new rfl 36 _ _ rfl (wr.setCell ⟨w0.heap.size, k, none⟩ (.int .i64 (z % 161))) wr.heap.size _ (bcells self) (size_setCell _ _ _) rfl rfl rfl (bcells_size36 self hs) (by simp [hs]) (bcells_one _) ?_; clear tok)
            | (refine wpList_load_row rfl 36 _ rfl wr.heap.size rfl 36 (((self.map (Value.int .u8)).set (19 - z % 161 / 8).toNat (.int .u8 (bits .xor .u8 x (2 ^ (z % 161 % 8).toNat % 256)))).toArray) (0, 0) _ HH.out Yba.underlying36 rfl (by rw [Yba.size36]; simp [hs]) ?_)
            | (refine wpList_store_mid rfl 36 _ _ rfl (w.heap.size + 1) (k * 20) (((self.map (Value.int .u8)).set (19 - z % 161 / 8).toNat (.int .u8 (bits .xor .u8 x (2 ^ (z % 161 % 8).toNat % 256)))).toArray) rfl rfl ?_ (by rw [Yba.size36]; simp [hs]) (bcells_oneSet _ _ _) ?_))
          · exact there_sub (World.there_alloc (there_setCell HI.out.ksT _ _ _) _) _ _ (by simp [hs]; omega)
          · go_roundw
            case rel =>
              have hst := HI.out.step hlt _ (by rw [List.length_set]; exact hs) (flip_cells hz.out hx.out hs2) (z % 161) (by unfold selOf; rw [← hz.out])
              rw [bcells, List.map_set] at hst
              exact ⟨k + 1, by omega, by go_num, hst⟩
            case measure => simp [intOf]; omega
      · obtain rfl : k = n := by omega
        have HI := hidden hinv
        clear hinv
        have hlim : (size < 1 ∧ Hid (lim size = 20)) ∨ (¬ size < 1 ∧ Hid (lim size = size)) := by
          by_cases h : size < 1
          · exact .inl ⟨h, if_pos h⟩
          · exact .inr ⟨h, if_neg h⟩
        rcases hlim with ⟨hsz, hlim⟩ | ⟨hsz, hlim⟩
        all_goals
          go_wp2_with (first
            | (refine wpList_load_mid rfl 33 _ rfl (w.heap.size) 0 rfl (self.map (Value.int .u8)) _ HI.out.box Yba.underlying33 rfl (lenMap33 self hs) ?_)
            | (go_at_call 10; refine (choose_any size self ((List.range k).map fun i => flip self (selOf zs i)) k (w.heap.size + 1) _ hs (by omega) (fun i hi => by simp [hi, flip_len, hs]) (by have := HI.out.lo; have := HI.out.hi; omega) (fun i hi => by simp [hi]; exact HI.out.ks i hi)).mono ?_; rintro e w2 ⟨v, rfl, hown2, hbel2⟩))
          go_loopw [15, 16] (fun v i wr => ∃ j : Nat, j ≤ k ∧ i = .int .i64 j ∧ CntInv w2 wr (lim size) (fbs zs) j v) (fun _ i _ => k - (intOf i).toNat)
          case atStart => exact ⟨0, by omega, rfl, CntInv.start _ _ _⟩
          case round =>
            obtain ⟨j, hjk, rfl, hcnt⟩ := hrel
            by_cases hlt : j < k
            · obtain ⟨s, hsel⟩ : ∃ s, Hid (s = selOf zs j) := ⟨_, rfl⟩
              have hsr : 0 ≤ s ∧ s ≤ 160 := by rw [hsel.out]; unfold selOf; omega
              obtain ⟨hs0, hs1⟩ := hsr
              have hcs : wr.cell? ⟨w0.heap.size, j, none⟩ = some (.int .i64 s) := by
                rw [hcnt.below.cell (p := ⟨w0.heap.size, j, none⟩) (by have := hbel2.size; have := HI.out.hi; show w0.heap.size < w2.heap.size; omega), hbel2.cell (p := ⟨w0.heap.size, j, none⟩) HI.out.hi, hsel.out]
                exact HI.out.sels j hlt
              obtain ⟨c, hc⟩ : ∃ c, Hid (c = (pick (lim size) (fbs zs) j).1.getD s.toNat 0) := ⟨_, rfl⟩
              have hcb : 0 ≤ c ∧ c ≤ j := by rw [hc.out]; exact pick_bd _ _ _ _
              obtain ⟨hc0, hc1⟩ := hcb
              have hI : (j : Int) < (k : Int) := by omega
              have hfz := hcnt.frozen s.toNat
              by_cases hs2 : s = 160
              · have hsB : (s != 160) = false := by simp [hs2]
                have HC := hidden (hcnt.no (by unfold fbs; rw [← hsel.out, if_pos hs2]; omega))
                clear hs2 hcnt hfz
                go_wp2
                go_roundw
                case rel => exact ⟨j + 1, by omega, by go_num, HC.out⟩
                case measure => simp [intOf]; omega
              · have hsB : (s != 160) = true := by simp [hs2]
                have hq : Hid (s = fbs zs j) := by show s = _; unfold fbs; rw [← hsel.out, if_neg hs2]
                have hs3 : s < 160 := by omega
                have hcc : wr.cell? ⟨w2.heap.size, s.toNat, none⟩ = some (.int .i64 c) := by rw [hcnt.cell _ (by omega), hc.out]
                clear hs2
                by_cases hyes : c < lim size
                · have hyes' := hyes
                  rw [hlim.out] at hyes'
                  have hol := pick_out (lim size) (fbs zs) j
                  have hown3 := hcnt.own2 s.toNat (.int .i64 (c + 1))
                  have hsz2 := hcnt.size
                  have HC := hidden hcnt
                  have hy := hidden hyes
                  clear hcnt hyes
                  go_wp2_with (at_builtin; go_must (refine wpList_append_own _ rfl _ _ 37 rfl (w2.heap.size + 1) 3 i0 (.int .i64 0) 1 8 Yba.underlying37 hi hz0 hz1 hz2 rfl (by decide) _ _ _ rfl (hown3.alloc _) ⟨wr.heap.size, 0, none⟩ 1 1 [.int .i64 j] rfl rfl (one_new_set _ _ _ _ _) (ints_oneCell .i64 [(j : Int)]) (by unfold maxLen; omega) (by omega) (by simp; omega) ?_); intro v' w3 hown4 hgrow hnil)
                  go_roundw
                  case rel => exact ⟨j + 1, by omega, by go_num, HC.out.yes hq.out hc.out hs0 hy.out hown4 hgrow⟩
                  case measure => simp [intOf]; omega
                · have hno' := hyes
                  rw [hlim.out] at hno'
                  have HC := hidden (hcnt.no (by rw [← hq.out, ← hc.out]; exact fun h => hyes h.2))
                  clear hcnt hyes
                  go_wp2
                  go_roundw
                  case rel => exact ⟨j + 1, by omega, by go_num, HC.out⟩
                  case measure => simp [intOf]; omega
            · obtain rfl : j = k := by omega
              have hpk : pick (lim size) (bsOf self ((List.range j).map fun i => flip self (selOf zs i))) j = pick (lim size) (fbs zs) j := pick_congr _ _ _ _ (fun i hi => by
                have e : ((List.range j).map fun i => flip self (selOf zs i)).getD i [] = flip self (selOf zs i) := by simp [hi]
                unfold bsOf fbs
                rw [e, hb_flip self _ hs HSX.out (by unfold selOf; omega) (by unfold selOf; omega)])
              rw [hpk] at hown2
              have hol := pick_out (lim size) (fbs zs) j
              have ho1 := hidden (owns_below hown2 hcnt.below)
              have hsz1 := HI.out.below.size
              have hsz2 := hbel2.size
              have hsz3 := hcnt.below.size
              have hBB : Below w.heap.size w _ := (HI.out.below.trans (hbel2.mono hsz1)).trans (hcnt.below.mono (Nat.le_trans hsz1 hsz2))
              have ho2 := hidden hcnt.own
              clear hown2 hpk hcnt hbel2
              go_wp2_with (go_at_call 12; refine (same_any _ _ _ _ _ _ (by omega) ho1.out ho2.out).mono ?_; rintro e w4 ⟨rfl, hb4⟩)
              go_ret
              exact ⟨rfl, hBB.trans (hb4.mono (by omega))⟩

end Go.Proofs.Ybulkavii
