/-
  Seat b2340a, law AJoining: the walk (function 3).
-/
import Derived.Test.YbulkavlaInv
import Derived.LaidEql
namespace Go.Proofs.Ybulkavla
open Go.RowKit

theorem info3 : (Yba.prog.info? 3).map (fun i => (i.zero, i.size, i.bytes)) = some (some (.int .i64 0), 1, 8) := by kernel_rfl
theorem info25 : (Yba.prog.info? 25).map (fun i => (i.zero, i.size, i.bytes)) = some (some (.slice none 0 0), 1, 24) := by kernel_rfl
theorem info44 : (Yba.prog.info? 44).map (fun i => (i.zero, i.size, i.bytes)) = some (some (.int .u64 0), 1, 8) := by kernel_rfl
theorem info31s : (Yba.prog.info? 31).map (fun i => (i.size, i.bytes)) = some (6, 56) := by kernel_rfl
theorem info31z : ((Yba.prog.info? 31).bind (fun i => i.zero)).isSome = true := by kernel_rfl
theorem info31 : ∃ i z, Yba.prog.info? 31 = some i ∧ i.zero = some z ∧ i.size = 6 ∧ i.bytes = 56 := by
  obtain ⟨i, hi, h⟩ := Option.map_eq_some_iff.1 info31s
  simp only [Prod.mk.injEq] at h
  have hz := info31z
  rw [hi] at hz
  obtain ⟨z, hz⟩ := Option.isSome_iff_exists.1 hz
  exact ⟨i, z, hi, hz, h.1, h.2⟩

theorem owns_slice {w : World} {base : Nat} {e : TypeId} {size : Nat} {v : Value} {n : Nat} {xs : List Value} (h : w.ownsRow base e size v n xs) : ∃ a cap, v = .slice a n cap := by
  rcases h.2 with ⟨rfl, rfl⟩ | ⟨g, cap, _, h, _⟩
  · exact ⟨none, 0, rfl⟩
  · exact ⟨_, cap, h⟩
theorem two_new_cell (w : World) (o : Obj) (x : Value) (t : TypeId) : ∀ (j : Nat) (y : Value), [x][j]? = some y → ((w.alloc o).alloc (.cells #[x] t)).cell? ((⟨w.heap.size + 1, 0, none⟩ : Addr).add j) = some y := by
  have h := cell_one_new (w.alloc o) x t
  simp only [World.size_alloc] at h
  exact h

theorem two_new_set (w : World) (a : Addr) (u : Value) (o : Obj) (x : Value) (t : TypeId) : ∀ (j : Nat) (y : Value), [x][j]? = some y → (((w.setCell a u).alloc o).alloc (.cells #[x] t)).cell? ((⟨w.heap.size + 1, 0, none⟩ : Addr).add j) = some y := by
  have h := two_new_cell (w.setCell a u) o x t
  rw [show (w.setCell a u).heap.size = w.heap.size by simp [World.setCell]] at h
  exact h

theorem six_cells {w : World} {base E n i : Nat} {es : List Value} (h : w.ownsRow base 31 6 (.slice (some ⟨E, 0, none⟩) n n) n es) (hi : i < n) :
    ∃ z0 z1 z2 z3 z4 z5, w.cell? ⟨E, i * 6, none⟩ = some z0 ∧ w.cell? ⟨E, i * 6 + 1, none⟩ = some z1 ∧ w.cell? ⟨E, i * 6 + 2, none⟩ = some z2 ∧ w.cell? ⟨E, i * 6 + 3, none⟩ = some z3 ∧ w.cell? ⟨E, i * 6 + 4, none⟩ = some z4 ∧ w.cell? ⟨E, i * 6 + 5, none⟩ = some z5 := by
  have hl := h.1
  have key : ∀ j, j < n * 6 → ∃ z, w.cell? ⟨E, j, none⟩ = some z := fun j hj => by
    rw [h.cellAt j hj, List.getElem?_eq_getElem (by omega)]; exact ⟨_, rfl⟩
  obtain ⟨z0, h0⟩ := key (i * 6) (by omega)
  obtain ⟨z1, h1⟩ := key (i * 6 + 1) (by omega)
  obtain ⟨z2, h2⟩ := key (i * 6 + 2) (by omega)
  obtain ⟨z3, h3⟩ := key (i * 6 + 3) (by omega)
  obtain ⟨z4, h4⟩ := key (i * 6 + 4) (by omega)
  obtain ⟨z5, h5⟩ := key (i * 6 + 5) (by omega)
  exact ⟨z0, z1, z2, z3, z4, z5, h0, h1, h2, h3, h4, h5⟩

theorem Inv.step2 {B E P F kk n i p mv : Nat} {pr : Nat → Nat} {fr : Nat → Int} {fv : Int} {lv : List Value} {w : World} (h : Inv B E P F kk n i pr fr w) (hpi : pr i = p) (hmv : mv = (evOf pr p i).length) (hlv : lv = (evOf pr p i).map (Value.int .i64)) (hfv : fv = fr i) (hi : i < n) (hp : p < kk) (hE : E < P) (hP : P < F)
    {v : Value} {xs : List Value} (hx : w.ownsRow B 25 1 (.slice (some ⟨P, 0, none⟩) kk kk) kk xs) (hv : xs[p]? = some v) (o o' : Obj) {w2 : World} {gg cap : Nat}
    (hown : w2.ownsRow (F + 1) 3 1 (.slice (some ⟨gg, 0, none⟩) (mv + 1) cap) (mv + 1) (lv ++ [.int .i64 i]))
    (hgrow : (((w.setCell ⟨F, i, none⟩ (.int .i64 fv)).alloc o).alloc o').grownBy w2 v.ownBlock) (hat : v.ownBlock = some gg ∨ gg = w.heap.size + 1 + 1) (x0 x1 x2 x3 x5 : Value) :
    Inv B E P F kk n (i + 1) pr fr (((((((w2.setCell ⟨P, p, none⟩ (.slice (some ⟨gg, 0, none⟩) (mv + 1) cap)).setCell ⟨E, i * 6, none⟩ x0).setCell ⟨E, i * 6 + 1, none⟩ x1).setCell ⟨E, i * 6 + 2, none⟩ x2).setCell ⟨E, i * 6 + 3, none⟩ x3).setCell ⟨E, i * 6 + 4, none⟩ (.int .i64 fv)).setCell ⟨E, i * 6 + 5, none⟩ x5) := by
  subst hpi hmv hlv hfv
  exact h.step hi hp hE hP hx hv o o' hown hgrow hat x0 x1 x2 x3 x5

theorem owns_below {w w' : World} {base : Nat} {e : TypeId} {size : Nat} {v : Value} {n : Nat} {xs : List Value} (h : w.ownsRow base e size v n xs) (hb : Below w.heap.size w w') : w'.ownsRow base e size v n xs := by
  refine ⟨h.1, ?_⟩
  rcases h.2 with h | ⟨g, cap, cur, h1, h2, h3, h4⟩
  · exact .inl h
  · have hlt : g < w.heap.size := by
      rcases Nat.lt_or_ge g w.heap.size with h | h
      · exact h
      · rw [Array.getElem?_eq_none h] at h3; cases h3
    exact .inr ⟨g, cap, cur, h1, h2, (hb.block g hlt).trans h3, h4⟩

theorem inf31 : (Yba.prog.info? 31).isSome = true := by kernel_rfl
theorem equalIn_ptr_same (w : World) (d : Nat) (a : Addr) : (Op.equalIn (d + 1) 41 (.pointer (some a)) (.pointer (some a))).run Yba.prog w = .ok true w := by
  obtain ⟨j, hj⟩ := Option.isSome_iff_exists.1 inf31
  simp [Op.equalIn, run_underlying Yba.underlying41, sizeOf, typeInfo, run_sameAddr_same, hj]
theorem neq_ptr (a : Addr) (w : World) : (binOp .neq 41 (.pointer (some a)) (.pointer (some a))).run Yba.prog w = .ok (.bool false) w := by
  simp only [binOp]
  simp [Op.equal, Op.maxDepth, equalIn_ptr_same w 9999 a]

/-- The from of event j. -/
def frOf (rc : Nat → Bool) (fc : Nat → Int) (j : Nat) : Int := if rc j = true ∧ 0 < j then fc j % j else -1

set_option maxRecDepth 100000 in
set_option maxHeartbeats 4000000 in
theorem joining_walk (a0 : Option Addr) (n cap : Nat) (a1 : Int) (pc : Nat → Int) (rc : Nat → Bool) (fc : Nat → Int) (w : World) (hn : n ≤ 1024) (ha : 0 ≤ a1 ∧ a1 ≤ 255)
    (hrow : 0 < n → ∃ pb po, a0 = some ⟨pb, po, none⟩ ∧ pb < w.heap.size ∧ ∀ j, j < n → w.cell? ⟨pb, po + j * 3, none⟩ = some (.int .u8 (pc j)) ∧ w.cell? ⟨pb, po + j * 3 + 1, none⟩ = some (.bool (rc j)) ∧ w.cell? ⟨pb, po + j * 3 + 2, none⟩ = some (.int .u16 (fc j)))
    (hpc : ∀ j, 0 ≤ pc j ∧ pc j ≤ 255) (hfc : ∀ j, 0 ≤ fc j ∧ fc j ≤ 65535) :
    Calls Yba.prog 3 #[.int .u8 a1, .slice a0 n cap] w fun e w' => e = .returned (.bool true) ∧ Below w.heap.size w w' := by
  have HROW := hidden hrow
  have HPC := hidden hpc
  have HFC := hidden hfc
  clear hrow hpc hfc
  obtain ⟨ha0, ha1⟩ := ha
  obtain ⟨kk, hk, hk0, hk1⟩ : ∃ kk : Nat, a1 % 4 + 1 = (kk : Int) ∧ 0 < kk ∧ kk ≤ 4 := ⟨(a1 % 4 + 1).toNat, by omega, by omega, by omega⟩
  have hnI : ¬ (1024 : Int) < (n : Int) := by omega
  obtain ⟨i3, hi3, hz30, hz31, hz32⟩ := info_parts info3
  obtain ⟨i25, hi25, hz250, hz251, hz252⟩ := info_parts info25
  obtain ⟨i44, hi44, hz440, hz441, hz442⟩ := info_parts info44
  obtain ⟨i31, z31, hi31, hz310, hz311, hz312⟩ := info31
  go_enter Yba.func3, Yba.ntmps3
  go_wp2_with (first
    | (at_make; refine wpList_make_full _ rfl _ _ 23 rfl w.heap.size 31 i31 z31 6 Yba.underlying23 hi31 hz310 hz311 _ _ _ _ n rfl rfl rfl rfl (by rw [hz312]; omega) (by unfold maxLen; omega) (Nat.le_refl _) ?_; intro w1 ho1 hg1; have HO1 := hidden ho1; have HG1 := hidden hg1; clear ho1 hg1)
    | (at_make; refine wpList_make_full _ rfl _ _ 24 rfl w.heap.size 25 i25 (.slice none 0 0) 1 Yba.underlying24 hi25 hz250 hz251 _ _ _ _ kk rfl rfl rfl rfl (by rw [hz252]; omega) (by unfold maxLen; omega) HG1.out.size ?_; intro w2 ho2 hg2; have HO2 := hidden ho2; have HG2 := hidden hg2; clear ho2 hg2)
    | (at_make; refine wpList_make_full _ rfl _ _ 25 rfl w.heap.size 3 i3 (.int .i64 0) 1 Yba.underlying25 hi3 hz30 hz31 _ _ _ _ n rfl rfl rfl rfl (by rw [hz32]; omega) (by unfold maxLen; omega) (Nat.le_trans HG1.out.size HG2.out.size) ?_; intro w3 ho3 hg3; have HO3 := hidden ho3; have HG3 := hidden hg3; clear ho3 hg3))
  have hEP : w.heap.size < w1.heap.size := (HO1.out.lt _ rfl).2
  have hPF : w1.heap.size < w2.heap.size := (HO2.out.lt _ rfl).2
  have hF3 : w2.heap.size < w3.heap.size := (HO3.out.lt _ rfl).2
  have HB3 : Hid (Below w.heap.size w w3) := ((Below.refl _ _).grown HG1.out (Nat.le_refl _) (fun k h => by cases h)).trans (((Below.refl _ _).grown HG2.out (by omega) (fun k h => by cases h)).trans ((Below.refl _ _).grown HG3.out (by omega) (fun k h => by cases h)))
  obtain ⟨E, hE⟩ : ∃ E, E = w.heap.size := ⟨_, rfl⟩
  have HINV : Hid (Inv w.heap.size w.heap.size w1.heap.size w2.heap.size kk n 0 (fun j => (pc j % kk).toNat) (frOf rc fc) w3) := by
    refine ⟨⟨_, (HO1.out.kept HG2.out (.inr (by simp [Value.ownBlock]))).kept HG3.out (.inr (by simp [Value.ownBlock])), fun j hj => by omega⟩, ⟨_, HO3.out, fun j hj => by omega⟩, ⟨_, HO2.out.kept HG3.out (.inr (by simp [Value.ownBlock])), fun p hp => ⟨.slice none 0 0, ?_, ⟨rfl, .inl ⟨rfl, rfl⟩⟩⟩, fun p q v u _ h1 h2 => ?_⟩⟩
    · rw [show (Value.slice none 0 0).cells = #[.slice none 0 0] from rfl, toList_madeCells_one]
      simp [hp]
    · rw [show (Value.slice none 0 0).cells = #[.slice none 0 0] from rfl, toList_madeCells_one] at h1
      left
      have := (List.getElem?_eq_some_iff.1 h1).2
      simp at this
      rw [← this]; rfl
  clear HO1 HO2 HO3 HG1 HG2 HG3 hE E
  go_loopw [9] (fun i wr => ∃ k : Nat, k ≤ n ∧ i = .int .i64 k ∧ Hid (Inv w.heap.size w.heap.size w1.heap.size w2.heap.size kk n k (fun j => (pc j % kk).toNat) (frOf rc fc) wr) ∧ w2.heap.size < wr.heap.size ∧ Hid (Below w.heap.size w wr)) (fun i _ => n - (intOf i).toNat)
  case atStart => exact ⟨0, by omega, rfl, HINV.out, hF3, HB3.out⟩
  case round =>
    obtain ⟨i, hi, rfl, HI, hsz, HB⟩ := hrel
    by_cases hlt : i < n
    · obtain ⟨pb, po, rfl, hpb, hcells⟩ := HROW.out (by omega)
      obtain ⟨q0, q1, q2⟩ := hcells i hlt
      have hI : (i : Int) < (n : Int) := by omega
      have r0 : wr.cell? ⟨pb, po + i * 3, none⟩ = some (.int .u8 (pc i)) := (HB.out.cell (p := ⟨pb, po + i * 3, none⟩) hpb).trans q0
      have r1 : wr.cell? ⟨pb, po + i * 3 + 1, none⟩ = some (.bool (rc i)) := (HB.out.cell (p := ⟨pb, po + i * 3 + 1, none⟩) hpb).trans q1
      have r2 : wr.cell? ⟨pb, po + i * 3 + 2, none⟩ = some (.int .u16 (fc i)) := (HB.out.cell (p := ⟨pb, po + i * 3 + 2, none⟩) hpb).trans q2
      clear q0 q1 q2 hcells
      obtain ⟨x, hx⟩ : ∃ x, Hid (x = pc i) := ⟨_, rfl⟩
      obtain ⟨y, hy⟩ : ∃ y, Hid (y = fc i) := ⟨_, rfl⟩
      obtain ⟨b, hb⟩ : ∃ b, Hid (b = rc i) := ⟨_, rfl⟩
      rw [← hx.out] at r0
      rw [← hb.out] at r1
      rw [← hy.out] at r2
      have hx2 : 0 ≤ x ∧ x ≤ 255 := by rw [hx.out]; exact HPC.out i
      have hy2 : 0 ≤ y ∧ y ≤ 65535 := by rw [hy.out]; exact HFC.out i
      obtain ⟨hx0, hx1⟩ := hx2
      obtain ⟨hy0, hy1⟩ := hy2
      obtain ⟨p, hp, hpk⟩ : ∃ p : Nat, x % (kk : Int) = (p : Int) ∧ p < kk := ⟨(x % (kk : Int)).toNat, by have := Int.emod_nonneg x (show (kk : Int) ≠ 0 by omega); omega, by have := Int.emod_lt_of_pos x (show (0 : Int) < kk by omega); have := Int.emod_nonneg x (show (kk : Int) ≠ 0 by omega); omega⟩
      obtain ⟨fv, hfv⟩ : ∃ fv, Hid (fv = frOf rc fc i) := ⟨_, rfl⟩
      have hpr : Hid ((fun j => (pc j % kk).toNat) i = p) := by show (pc i % kk).toNat = p; rw [← hx.out, hp]; simp
      obtain ⟨es, he1, _⟩ := HI.out.ee
      obtain ⟨fs, hf1, _⟩ := HI.out.ff
      obtain ⟨ps, hp1, hp2, _⟩ := HI.out.pp
      obtain ⟨v, hv1, hv2⟩ := hp2 p hpk
      have hel := he1.1
      have hfl := hf1.1
      have m0 : wr.cell? ⟨w1.heap.size, p, none⟩ = some v := by rw [hp1.cellAt p (by omega)]; exact hv1
      obtain ⟨z0, n0⟩ : ∃ z, wr.cell? ⟨w2.heap.size, i, none⟩ = some z := by rw [hf1.cellAt i (by omega), List.getElem?_eq_getElem (by omega)]; exact ⟨_, rfl⟩
      have n1 : wr.frozen? ⟨w2.heap.size, i, none⟩ = false := hf1.frozenAt _
      have HV := hidden hv2
      have hevl := evOf_len (fun j => (pc j % kk).toNat) p i
      obtain ⟨mv, hmv⟩ : ∃ mv, Hid (mv = (evOf (fun j => (pc j % kk).toNat) p i).length) := ⟨_, rfl⟩
      obtain ⟨lv, hlv⟩ : ∃ lv, Hid (lv = (evOf (fun j => (pc j % kk).toNat) p i).map (Value.int .i64)) := ⟨_, rfl⟩
      rw [← hmv.out] at hevl
      rw [← hmv.out, ← hlv.out] at HV
      obtain ⟨av, capv, rfl⟩ := owns_slice HV.out
      have HPX := hidden hp1
      have HEX := hidden he1
      have HVX := hidden hv1
      have hpI : (p : Int) < (kk : Int) := by omega
      have HFL := hidden hfl
      have HEL := hidden hel
      have hag : Hid (∀ b, (Value.slice av mv capv).ownBlock = some b → w2.heap.size + 1 ≤ b ∧ b < wr.heap.size) := HV.out.lt
      clear hp1 hp2 he1 hf1 hv1 hv2 hfl hel
      have ne12 : w1.heap.size ≠ w2.heap.size := by omega
      have ne21 : w2.heap.size ≠ w1.heap.size := by omega
      have ne01 : w.heap.size ≠ w1.heap.size := by omega
      have ne10 : w1.heap.size ≠ w.heap.size := by omega
      have l1 : w1.heap.size < wr.heap.size := by omega
      cases b with
      | false =>
        have hfv2 : fv = -1 := by rw [hfv.out]; simp [frOf, ← hb.out]
        subst hfv2
        go_wp2_with (at_builtin; go_must (refine wpList_append_lies _ (by rfl) _ _ 25 (by rfl) (w2.heap.size + 1) 3 i3 (.int .i64 0) 1 8 Yba.underlying25 hi3 hz30 hz31 hz32 rfl (by decide) _ _ _ (by rfl) (((ownsRow_setCell_below HV.out (a := ⟨w2.heap.size, i, none⟩) (Nat.lt_succ_self _) (.int .i64 (-1))).alloc _).alloc _) ⟨wr.heap.size + 1, 0, none⟩ 1 1 [.int .i64 i] (by rfl) (by rfl) (two_new_set _ _ _ _ _ _) (ints_oneCell .i64 [(i : Int)]) (by decide) (by unfold maxLen; omega) (by omega) (by simp; omega) (wr.heap.size + 1 + 1) (by simp) ?_); intro gg capg w4 hown4 hgrow hat hlt4; have hEr : some w.heap.size ≠ (Value.slice av mv capv).ownBlock := fun h => (by have := (hag.out _ h.symm).1; omega); have hPr : some w1.heap.size ≠ (Value.slice av mv capv).ownBlock := fun h => (by have := (hag.out _ h.symm).1; omega); have e4 : w4.ownsRow w.heap.size 31 6 (.slice (some ⟨w.heap.size, 0, none⟩) n n) n es := (((ownsRow_setCell_other HEX.out (a := ⟨w2.heap.size, i, none⟩) (by simp [Value.ownBlock]; omega) _).alloc _).alloc _).kept hgrow (.inr hEr); have p4 : w4.ownsRow w.heap.size 25 1 (.slice (some ⟨w1.heap.size, 0, none⟩) kk kk) kk ps := (((ownsRow_setCell_other HPX.out (a := ⟨w2.heap.size, i, none⟩) (by simp [Value.ownBlock]; omega) _).alloc _).alloc _).kept hgrow (.inr hPr); obtain ⟨z0, z1, z2, z3, z4, z5, s0, s1, s2, s3, s4, s5⟩ := six_cells e4 hlt; have k0 := e4.frozenAt (i * 6); have k1 := e4.frozenAt (i * 6 + 1); have k2 := e4.frozenAt (i * 6 + 2); have k3 := e4.frozenAt (i * 6 + 3); have k4 := e4.frozenAt (i * 6 + 4); have k5 := e4.frozenAt (i * 6 + 5); have kp := p4.frozenAt p; have mp : w4.cell? ⟨w1.heap.size, p, none⟩ = some (.slice av mv capv) := (p4.cellAt p (by omega)).trans HVX.out; have HGROW := hidden hgrow; have HOWN4 := hidden hown4; have HAT := hidden hat; clear e4 p4 hgrow hown4 hat hEr hPr)
        have hbel : Below w.heap.size w w4 := (((HB.out.setCell (p := ⟨w2.heap.size, i, none⟩) (by show _ ≤ w2.heap.size; omega) _).alloc (by simp [World.setCell]; omega) _).alloc (by simp [World.setCell]; omega) _).grown HGROW.out (by simp [World.setCell]; omega) (fun b hb => by have := (hag.out b hb).1; omega)
        have hsz4 : w2.heap.size < w4.heap.size := by have := HGROW.out.size; simp [World.setCell] at this; omega
        refine ⟨⟨i + 1, by omega, by go_num, HI.out.step2 hpr.out hmv.out hlv.out hfv.out hlt hpk hEP hPF HPX.out HVX.out _ _ HOWN4.out HGROW.out HAT.out _ _ _ _ _, by simpa [World.setCell] using hsz4, ?_⟩, by simp [intOf]; omega⟩
        exact ((((((hbel.setCell (by show _ ≤ w1.heap.size; omega) _).setCell (Nat.le_refl _) _).setCell (Nat.le_refl _) _).setCell (Nat.le_refl _) _).setCell (Nat.le_refl _) _).setCell (Nat.le_refl _) _).setCell (Nat.le_refl _) _
      | true =>
        by_cases h0 : 0 < i
        · have hfv2 : y % (i : Int) = fv := by rw [hfv.out, hy.out]; simp [frOf, ← hb.out, h0]
          have h0I : (0 : Int) < (i : Int) := by omega
          have h0B : decide (0 < i) = true := by simp; omega
          go_wp2_with (at_builtin; go_must (refine wpList_append_lies _ (by rfl) _ _ 25 (by rfl) (w2.heap.size + 1) 3 i3 (.int .i64 0) 1 8 Yba.underlying25 hi3 hz30 hz31 hz32 rfl (by decide) _ _ _ (by rfl) (((ownsRow_setCell_below HV.out (a := ⟨w2.heap.size, i, none⟩) (Nat.lt_succ_self _) (.int .i64 fv)).alloc _).alloc _) ⟨wr.heap.size + 1, 0, none⟩ 1 1 [.int .i64 i] (by rfl) (by rfl) (two_new_set _ _ _ _ _ _) (ints_oneCell .i64 [(i : Int)]) (by decide) (by unfold maxLen; omega) (by omega) (by simp; omega) (wr.heap.size + 1 + 1) (by simp) ?_); intro gg capg w4 hown4 hgrow hat hlt4; have hEr : some w.heap.size ≠ (Value.slice av mv capv).ownBlock := fun h => (by have := (hag.out _ h.symm).1; omega); have hPr : some w1.heap.size ≠ (Value.slice av mv capv).ownBlock := fun h => (by have := (hag.out _ h.symm).1; omega); have e4 : w4.ownsRow w.heap.size 31 6 (.slice (some ⟨w.heap.size, 0, none⟩) n n) n es := (((ownsRow_setCell_other HEX.out (a := ⟨w2.heap.size, i, none⟩) (by simp [Value.ownBlock]; omega) _).alloc _).alloc _).kept hgrow (.inr hEr); have p4 : w4.ownsRow w.heap.size 25 1 (.slice (some ⟨w1.heap.size, 0, none⟩) kk kk) kk ps := (((ownsRow_setCell_other HPX.out (a := ⟨w2.heap.size, i, none⟩) (by simp [Value.ownBlock]; omega) _).alloc _).alloc _).kept hgrow (.inr hPr); obtain ⟨z0, z1, z2, z3, z4, z5, s0, s1, s2, s3, s4, s5⟩ := six_cells e4 hlt; have k0 := e4.frozenAt (i * 6); have k1 := e4.frozenAt (i * 6 + 1); have k2 := e4.frozenAt (i * 6 + 2); have k3 := e4.frozenAt (i * 6 + 3); have k4 := e4.frozenAt (i * 6 + 4); have k5 := e4.frozenAt (i * 6 + 5); have kp := p4.frozenAt p; have mp : w4.cell? ⟨w1.heap.size, p, none⟩ = some (.slice av mv capv) := (p4.cellAt p (by omega)).trans HVX.out; have HGROW := hidden hgrow; have HOWN4 := hidden hown4; have HAT := hidden hat; clear e4 p4 hgrow hown4 hat hEr hPr)
          have hbel : Below w.heap.size w w4 := (((HB.out.setCell (p := ⟨w2.heap.size, i, none⟩) (by show _ ≤ w2.heap.size; omega) _).alloc (by simp [World.setCell]; omega) _).alloc (by simp [World.setCell]; omega) _).grown HGROW.out (by simp [World.setCell]; omega) (fun b hb => by have := (hag.out b hb).1; omega)
          have hsz4 : w2.heap.size < w4.heap.size := by have := HGROW.out.size; simp [World.setCell] at this; omega
          refine ⟨⟨i + 1, by omega, by go_num, HI.out.step2 hpr.out hmv.out hlv.out hfv.out hlt hpk hEP hPF HPX.out HVX.out _ _ HOWN4.out HGROW.out HAT.out _ _ _ _ _, by simpa [World.setCell] using hsz4, ?_⟩, by simp [intOf]; omega⟩
          exact ((((((hbel.setCell (by show _ ≤ w1.heap.size; omega) _).setCell (Nat.le_refl _) _).setCell (Nat.le_refl _) _).setCell (Nat.le_refl _) _).setCell (Nat.le_refl _) _).setCell (Nat.le_refl _) _).setCell (Nat.le_refl _) _
        · have hfv2 : fv = -1 := by rw [hfv.out]; simp [frOf, h0]
          subst hfv2
          have h0I : ¬ (0 : Int) < (i : Int) := by omega
          have h0B : decide (0 < i) = false := by simp; omega
          go_wp2_with (at_builtin; go_must (refine wpList_append_lies _ (by rfl) _ _ 25 (by rfl) (w2.heap.size + 1) 3 i3 (.int .i64 0) 1 8 Yba.underlying25 hi3 hz30 hz31 hz32 rfl (by decide) _ _ _ (by rfl) (((ownsRow_setCell_below HV.out (a := ⟨w2.heap.size, i, none⟩) (Nat.lt_succ_self _) (.int .i64 (-1))).alloc _).alloc _) ⟨wr.heap.size + 1, 0, none⟩ 1 1 [.int .i64 i] (by rfl) (by rfl) (two_new_set _ _ _ _ _ _) (ints_oneCell .i64 [(i : Int)]) (by decide) (by unfold maxLen; omega) (by omega) (by simp; omega) (wr.heap.size + 1 + 1) (by simp) ?_); intro gg capg w4 hown4 hgrow hat hlt4; have hEr : some w.heap.size ≠ (Value.slice av mv capv).ownBlock := fun h => (by have := (hag.out _ h.symm).1; omega); have hPr : some w1.heap.size ≠ (Value.slice av mv capv).ownBlock := fun h => (by have := (hag.out _ h.symm).1; omega); have e4 : w4.ownsRow w.heap.size 31 6 (.slice (some ⟨w.heap.size, 0, none⟩) n n) n es := (((ownsRow_setCell_other HEX.out (a := ⟨w2.heap.size, i, none⟩) (by simp [Value.ownBlock]; omega) _).alloc _).alloc _).kept hgrow (.inr hEr); have p4 : w4.ownsRow w.heap.size 25 1 (.slice (some ⟨w1.heap.size, 0, none⟩) kk kk) kk ps := (((ownsRow_setCell_other HPX.out (a := ⟨w2.heap.size, i, none⟩) (by simp [Value.ownBlock]; omega) _).alloc _).alloc _).kept hgrow (.inr hPr); obtain ⟨z0, z1, z2, z3, z4, z5, s0, s1, s2, s3, s4, s5⟩ := six_cells e4 hlt; have k0 := e4.frozenAt (i * 6); have k1 := e4.frozenAt (i * 6 + 1); have k2 := e4.frozenAt (i * 6 + 2); have k3 := e4.frozenAt (i * 6 + 3); have k4 := e4.frozenAt (i * 6 + 4); have k5 := e4.frozenAt (i * 6 + 5); have kp := p4.frozenAt p; have mp : w4.cell? ⟨w1.heap.size, p, none⟩ = some (.slice av mv capv) := (p4.cellAt p (by omega)).trans HVX.out; have HGROW := hidden hgrow; have HOWN4 := hidden hown4; have HAT := hidden hat; clear e4 p4 hgrow hown4 hat hEr hPr)
          have hbel : Below w.heap.size w w4 := (((HB.out.setCell (p := ⟨w2.heap.size, i, none⟩) (by show _ ≤ w2.heap.size; omega) _).alloc (by simp [World.setCell]; omega) _).alloc (by simp [World.setCell]; omega) _).grown HGROW.out (by simp [World.setCell]; omega) (fun b hb => by have := (hag.out b hb).1; omega)
          have hsz4 : w2.heap.size < w4.heap.size := by have := HGROW.out.size; simp [World.setCell] at this; omega
          refine ⟨⟨i + 1, by omega, by go_num, HI.out.step2 hpr.out hmv.out hlv.out hfv.out hlt hpk hEP hPF HPX.out HVX.out _ _ HOWN4.out HGROW.out HAT.out _ _ _ _ _, by simpa [World.setCell] using hsz4, ?_⟩, by simp [intOf]; omega⟩
          exact ((((((hbel.setCell (by show _ ≤ w1.heap.size; omega) _).setCell (Nat.le_refl _) _).setCell (Nat.le_refl _) _).setCell (Nat.le_refl _) _).setCell (Nat.le_refl _) _).setCell (Nat.le_refl _) _).setCell (Nat.le_refl _) _
    · obtain rfl : n = i := by omega
      obtain ⟨wo, hwo⟩ : ∃ wo, wo = wr := ⟨_, rfl⟩
      subst hwo
      obtain ⟨pr, hprd⟩ : ∃ pr : Nat → Nat, Hid (pr = fun j => (pc j % kk).toNat) := ⟨_, rfl⟩
      obtain ⟨fr, hfrd⟩ : ∃ fr : Nat → Int, Hid (fr = frOf rc fc) := ⟨_, rfl⟩
      rw [← hprd.out, ← hfrd.out] at HI
      clear HINV
      go_wp2_with (at_make; go_must (refine wpList_make_full _ rfl _ _ 40 rfl (wo.heap.size + 1) 44 i44 (.int .u64 0) 1 Yba.underlying40 hi44 hz440 hz441 _ _ _ _ kk rfl rfl rfl rfl (by rw [hz442]; omega) (by unfold maxLen; omega) (by simp) ?_); intro w5 ho5 hg5; have hC5 := (hg5.block wo.heap.size (by simp) (by simp)).trans (heap_alloc_new wo _); have HO5 := hidden ho5; have HG5 := hidden hg5; clear ho5 hg5)
      have HWO5 : Hid (Below wo.heap.size wo w5) := ((Below.refl _ _).alloc (Nat.le_refl _) _).grown HG5.out (by simp) (fun k h => by cases h)
      have HW5 : Hid (Below w.heap.size w w5) := HB.out.trans (HWO5.out.mono (by omega))
      have hD5 : wo.heap.size + 1 < w5.heap.size := by have := (HO5.out.lt _ rfl).2; simpa using this
      have g2 : w5.cell? ⟨wo.heap.size, 2, none⟩ = some (.slice (some ⟨w1.heap.size, 0, none⟩) kk kk) := (cell_of_row _ _ _ _ _ _ hC5).trans rfl
      have g3 : w5.cell? ⟨wo.heap.size, 3, none⟩ = some (.slice (some ⟨w.heap.size, 0, none⟩) n n) := (cell_of_row _ _ _ _ _ _ hC5).trans rfl
      have HCNT : Hid (∃ xs, w5.ownsRow (wo.heap.size + 1) 44 1 (.slice (some ⟨wo.heap.size + 1, 0, none⟩) kk kk) kk xs ∧ ∀ p, p < kk → xs[p]? = some (.int .u64 ((evOf pr p 0).length : Nat))) := by
        have h := HO5.out
        rw [show ((wo.alloc (.cells #[.slice none 0 0, .map none, .slice (some ⟨w1.heap.size, 0, none⟩) kk kk, .slice (some ⟨w.heap.size, 0, none⟩) n n, .slice none 0 0, .slice none 0 0, .map none] 39)).heap.size) = wo.heap.size + 1 by simp] at h
        refine ⟨_, h, fun p hp => ?_⟩
        rw [show (Value.int .u64 0).cells = #[.int .u64 0] from rfl, toList_madeCells_one]
        simp [hp, evOf]
      clear hC5 HO5 HG5
      go_loopw [15] (fun j wr => ∃ i : Nat, i ≤ n ∧ j = .int .i64 i ∧ Hid (∃ xs, wr.ownsRow (wo.heap.size + 1) 44 1 (.slice (some ⟨wo.heap.size + 1, 0, none⟩) kk kk) kk xs ∧ ∀ p, p < kk → xs[p]? = some (.int .u64 ((evOf pr p i).length : Nat))) ∧ Hid (Below (wo.heap.size + 1) w5 wr)) (fun j _ => n - (intOf j).toNat)
      case atStart => exact ⟨0, by omega, rfl, HCNT.out, Below.refl _ _⟩
      case round =>
        obtain ⟨i, hi2, rfl, HX, HB2⟩ := hrel
        have l2 : wr.cell? ⟨wo.heap.size, 2, none⟩ = some (.slice (some ⟨w1.heap.size, 0, none⟩) kk kk) := (HB2.out.cell (p := ⟨wo.heap.size, 2, none⟩) (Nat.lt_succ_self _)).trans g2
        have l3 : wr.cell? ⟨wo.heap.size, 3, none⟩ = some (.slice (some ⟨w.heap.size, 0, none⟩) n n) := (HB2.out.cell (p := ⟨wo.heap.size, 3, none⟩) (Nat.lt_succ_self _)).trans g3
        have HWOR : Hid (Below wo.heap.size wo wr) := HWO5.out.trans (HB2.out.mono (Nat.le_succ _))
        have HWR : Hid (Below w.heap.size w wr) := HW5.out.trans (HB2.out.mono (by omega))
        by_cases hlt2 : i < n
        · obtain ⟨pb, po, rfl, hpb, hcells⟩ := HROW.out (by omega)
          obtain ⟨q0, _, _⟩ := hcells i hlt2
          have hI : (i : Int) < (n : Int) := by omega
          obtain ⟨x, hx⟩ : ∃ x, Hid (x = pc i) := ⟨_, rfl⟩
          have r0 : wr.cell? ⟨pb, po + i * 3, none⟩ = some (.int .u8 x) := by rw [hx.out]; exact (HWR.out.cell (p := ⟨pb, po + i * 3, none⟩) hpb).trans q0
          clear q0 hcells
          have hx2 : 0 ≤ x ∧ x ≤ 255 := by rw [hx.out]; exact HPC.out i
          obtain ⟨hx0, hx1⟩ := hx2
          obtain ⟨p, hp, hpk⟩ : ∃ p : Nat, x % (kk : Int) = (p : Int) ∧ p < kk := ⟨(x % (kk : Int)).toNat, by have := Int.emod_nonneg x (show (kk : Int) ≠ 0 by omega); omega, by have := Int.emod_lt_of_pos x (show (0 : Int) < kk by omega); have := Int.emod_nonneg x (show (kk : Int) ≠ 0 by omega); omega⟩
          have hpr : pr i = p := by rw [hprd.out]; show (pc i % kk).toNat = p; rw [← hx.out, hp]; simp
          obtain ⟨fv, hfv⟩ : ∃ fv, Hid (fv = fr i) := ⟨_, rfl⟩
          have hfvr : -1 ≤ fv ∧ fv < n := by
            rw [hfv.out, hfrd.out]
            unfold frOf
            split
            · have h1 := Int.emod_nonneg (fc i) (show (i : Int) ≠ 0 by omega)
              have h2 := Int.emod_lt_of_pos (fc i) (show (0 : Int) < i by omega)
              omega
            · omega
          obtain ⟨es, he1, he2⟩ := HI.out.ee
          obtain ⟨fs, hf1, hf2⟩ := HI.out.ff
          obtain ⟨ps, hp1, hp2, _⟩ := HI.out.pp
          obtain ⟨v, hv1, hv2⟩ := hp2 p hpk
          obtain ⟨cs, hc1, hc2⟩ := HX.out
          have hat := evOf_at pr i n hlt2
          rw [hpr] at hat
          have hlen1 := (List.getElem?_eq_some_iff.1 hat).1
          have hlen2 := evOf_len pr p n
          obtain ⟨g, capv, rfl, _, hgl⟩ := hv2.form (by omega)
          have u0 : wr.cell? ⟨w1.heap.size, p, none⟩ = some (.slice (some ⟨g, 0, none⟩) (evOf pr p n).length capv) := (HWOR.out.cell (p := ⟨w1.heap.size, p, none⟩) (by show w1.heap.size < _; omega)).trans (by rw [hp1.cellAt p (by omega)]; exact hv1)
          have u1 : wr.cell? ⟨g, (evOf pr p i).length, none⟩ = some (.int .i64 i) := (HWOR.out.cell (p := ⟨g, _, none⟩) hgl).trans (by rw [hv2.cellAt _ (by omega), List.getElem?_map, hat]; rfl)
          have u2 : wr.cell? ⟨w.heap.size, i * 6 + 4, none⟩ = some (.int .i64 fv) := (HWOR.out.cell (p := ⟨w.heap.size, _, none⟩) (by show w.heap.size < _; omega)).trans (by rw [he1.cellAt _ (by omega), hfv.out]; exact he2 i hlt2)
          have u3 : wr.cell? ⟨w2.heap.size, i, none⟩ = some (.int .i64 fv) := (HWOR.out.cell (p := ⟨w2.heap.size, _, none⟩) hsz).trans (by rw [hf1.cellAt _ (by omega), hfv.out]; exact hf2 i hlt2)
          have u4 : wr.cell? ⟨wo.heap.size + 1, p, none⟩ = some (.int .u64 ((evOf pr p i).length : Nat)) := by rw [hc1.cellAt p (by omega)]; exact hc2 p hpk
          have u5 : wr.frozen? ⟨wo.heap.size + 1, p, none⟩ = false := hc1.frozenAt p
          obtain ⟨q, hq⟩ : ∃ q, Hid (q = (evOf pr p i).length) := ⟨_, rfl⟩
          rw [← hq.out] at u1 u4 hlen1
          have JOIN := hidden (joining_at wo.heap.size w1.heap.size w.heap.size p kk (evOf pr p n).length capv g q i n fv wr hpk (by omega) hlen1 hlt2 hfvr l2 l3 u0 u1 u2)
          have HC1 := hidden hc1
          have HC2 := hidden hc2
          have hpI : (p : Int) < (kk : Int) := by omega
          have hq1024 : q ≤ 1024 := by omega
          have HPR := hidden hpr
          obtain ⟨hfv0, hfv1⟩ := hfvr
          clear he1 he2 hf1 hf2 hp1 hp2 hv1 hv2 hc1 hc2 hat hlen1 hlen2 u0 u1 u2 hpr l2
          have DONE : Hid (∀ d, ∃ xs, ((wr.drewN d).setCell ⟨wo.heap.size + 1, p, none⟩ (.int .u64 ((q : Int) + 1))).ownsRow (wo.heap.size + 1) 44 1 (.slice (some ⟨wo.heap.size + 1, 0, none⟩) kk kk) kk xs ∧ ∀ p, p < kk → xs[p]? = some (.int .u64 ((evOf pr p (i + 1)).length : Nat))) := fun d => by
            have h := owns_below HC1.out (below_drewN (Below.refl wr.heap.size wr) d)
            refine ⟨_, (h.stored p _).1, fun p' hp' => ?_⟩
            have hl := h.1
            by_cases hpp : p' = p
            · subst hpp
              rw [List.getElem?_set_self (by omega)]
              have := HPR.out
              subst this
              rw [evOf_succ_eq]
              simp [hq.out]
            · rw [List.getElem?_set_ne (Ne.symm hpp), evOf_succ_ne pr p' i (by rw [HPR.out]; exact Ne.symm hpp)]
              exact HC2.out p' hp'
          by_cases hneg : fv < 0
          · go_wp2_with (go_at_call 4; refine JOIN.out.mono ?_; rw [if_pos hneg]; rintro e w6 ⟨rfl, d, rfl⟩)
            exact ⟨⟨i + 1, by omega, by go_num, DONE.out d, (below_drewN HB2.out d).setCell (Nat.le_refl _) _⟩, by simp [intOf]; omega⟩
          · obtain ⟨f', hf'⟩ : ∃ f' : Nat, fv = (f' : Int) := ⟨fv.toNat, by omega⟩
            subst hf'
            have hnp := neq_ptr
            go_wp2_with (go_at_call 4; refine JOIN.out.mono ?_; rw [if_neg hneg, Int.toNat_natCast]; rintro e w6 ⟨rfl, d, rfl⟩)
            go_quiet (fail)
            go_wp2
            exact ⟨⟨i + 1, by omega, by go_num, DONE.out _, (below_drewN HB2.out _).setCell (Nat.le_refl _) _⟩, by simp [intOf]; omega⟩
        · obtain rfl : n = i := by omega
          clear HROW
          obtain ⟨w7, hw7⟩ : ∃ w7, w7 = wr := ⟨_, rfl⟩
          subst hw7
          go_wp2
          go_loopw [19] (fun j wr => ∃ p : Nat, p ≤ kk ∧ j = .int .i64 p ∧ wr = w7) (fun j _ => kk - (intOf j).toNat)
          case atStart => exact ⟨0, by omega, rfl, rfl⟩
          case round =>
            obtain ⟨p, hp, rfl, rfl⟩ := hrel
            by_cases hpk : p < kk
            · obtain ⟨ps, hp1, hp2, _⟩ := HI.out.pp
              obtain ⟨v, hv1, hv2⟩ := hp2 p hpk
              obtain ⟨cs, hc1, hc2⟩ := HX.out
              obtain ⟨av, capv, rfl⟩ := owns_slice hv2
              have hlen2 := evOf_len pr p n
              have u0 : wr.cell? ⟨w1.heap.size, p, none⟩ = some (.slice av (evOf pr p n).length capv) := (HWOR.out.cell (p := ⟨w1.heap.size, p, none⟩) (by show w1.heap.size < _; omega)).trans (by rw [hp1.cellAt p (by omega)]; exact hv1)
              have u4 : wr.cell? ⟨wo.heap.size + 1, p, none⟩ = some (.int .u64 ((evOf pr p n).length : Nat)) := by rw [hc1.cellAt p (by omega)]; exact hc2 p hpk
              obtain ⟨q, hq⟩ : ∃ q, Hid (q = (evOf pr p n).length) := ⟨_, rfl⟩
              rw [← hq.out] at u0 u4 hlen2
              have JOIN := hidden (joining_end wo.heap.size w1.heap.size p kk q capv av wr hpk (by omega) l2 u0)
              have hpI : (p : Int) < (kk : Int) := by omega
              clear hp1 hp2 hv1 hv2 hc1 hc2 u0
              go_wp2_with (go_at_call 4; refine JOIN.out.mono ?_; rintro e w6 ⟨rfl, rfl⟩)
              exact ⟨⟨p + 1, by omega, by go_num, trivial⟩, by simp [intOf]; omega⟩
            · go_wp2
              go_ret
              exact ⟨rfl, HWR.out⟩

end Go.Proofs.Ybulkavla
