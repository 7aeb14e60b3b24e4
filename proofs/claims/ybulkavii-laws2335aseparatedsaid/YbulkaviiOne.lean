/-
  Seat b2335a, laws A: Borders (function 9) with one other, a at the centre.
-/
import Derived.Test.YbulkaviiMeetC
import Derived.Test.YbulkaviiSepF
import Derived.Test.YbulkaviiTwoC
import Derived.Deep.AppendLies
namespace Go.Proofs.Ybulkavii.A
open Go Go.RowKit
set_option linter.unusedSimpArgs false
set_option linter.unusedVariables false

theorem wrap_i (n : Int) (h0 : -100000 ≤ n) (h1 : n ≤ 100000) : IntKind.i64.wrap n = n := by
  simp [IntKind.wrap, IntKind.bits, IntKind.signed]
  omega

theorem below_3 (w : World) (o p q : Obj) : Below w.heap.size w (((w.alloc o).alloc p).alloc q) := (((Below.refl _ _).alloc (Nat.le_refl _) _).alloc (by simp) _).alloc (by simp; omega) _

theorem kept {w w' : World} {p : Addr} {v : Value} (h : w.cell? p = some v) (hb : Below w.heap.size w w') : w'.cell? p = some v := (hb.cell (World.block_lt_of_cell? w _ h)).trans h
theorem Pair.kept {w w' : World} {B x y : Nat} (h : Pair w B x y) (hb : Below w.heap.size w w') : Pair w' B x y := h.below hb (World.block_lt_of_cell? w _ h.1)
theorem row_lt {w : World} {k : Nat} {o : Obj} (h : w.heap[k]? = some o) : k < w.heap.size := (Array.getElem?_eq_some_iff.1 h).1
theorem row_kept {w w' : World} {k : Nat} {o : Obj} (h : w.heap[k]? = some o) (hb : Below w.heap.size w w') : w'.heap[k]? = some o := (hb.block k (row_lt h)).trans h
theorem fix {o : Option Nat} {r v : Nat} (h : Hid (Gives o r)) (hv : Hid (o = some v)) : v = r := (h.out.2 v hv.out).symm

theorem info_of {t : TypeId} {z : Value} {s by' : Nat} (h : (Yba.prog.info? t).map (fun i => (i.zero, i.size, i.bytes)) = some (some z, s, by')) : ∃ i, Yba.prog.info? t = some i ∧ i.zero = some z ∧ i.size = s ∧ i.bytes = by' := by
  cases hi : Yba.prog.info? t with
  | none => rw [hi] at h; cases h
  | some i =>
    rw [hi] at h
    simp only [Option.map_some, Option.some.injEq, Prod.mk.injEq] at h
    exact ⟨i, rfl, h.1, h.2.1, h.2.2⟩
theorem info26 : (Yba.prog.info? 26).map (fun i => (i.zero, i.size, i.bytes)) = some (some (.slice none 0 0), 1, 24) := by kernel_rfl
theorem info22 : (Yba.prog.info? 22).map (fun i => (i.zero, i.size, i.bytes)) = some (some (.float .f64 0), 1, 8) := by kernel_rfl
theorem info105 : (Yba.prog.info? 105).map (fun i => (i.zero, i.size, i.bytes)) = some (some (.agg #[.slice none 0 0, .float .f64 0, .float .f64 0]), 3, 40) := by kernel_rfl

theorem new_list (w : World) (vs : List Value) (t : TypeId) : ∀ j u, vs[j]? = some u → (w.alloc (.cells vs.toArray t)).cell? ((⟨w.heap.size, 0, none⟩ : Addr).add j) = some u := fun j u h => by
  have hadd : (⟨w.heap.size, 0, none⟩ : Addr).add j = ⟨w.heap.size, j, none⟩ := by unfold Addr.add; split <;> simp_all
  rw [hadd, cell_of_row _ _ _ _ _ _ (heap_alloc_new w _)]
  simpa using h
theorem Pair.grown {w w' : World} {row : Option Nat} {B x y : Nat} (h : Pair w B x y) (hg : w.grownBy w' row) (hB : some B ≠ row) : Pair w' B x y := by
  have hb := hg.block B (World.block_lt_of_cell? w _ h.1) hB
  exact ⟨(World.cell?_of_block hb).trans h.1, (World.cell?_of_block hb).trans h.2.1, (World.frozen?_of_block hb).trans h.2.2.1, (World.frozen?_of_block hb).trans h.2.2.2⟩
theorem cell_grown {w w' : World} {row : Option Nat} {p : Addr} {v : Value} (h : w.cell? p = some v) (hg : w.grownBy w' row) (hB : some p.block ≠ row) : w'.cell? p = some v :=
  (World.cell?_of_block (hg.block p.block (World.block_lt_of_cell? w _ h) hB)).trans h

theorem Pair.far {w : World} {B x y D e0 e1 : Nat} (h : Pair w B x y) (n : B ≠ D) : Pair ((w.setCell ⟨D, 0, none⟩ (.float .f64 e0)).setCell ⟨D, 1, none⟩ (.float .f64 e1)) B x y := by
  have hb : ((w.setCell ⟨D, 0, none⟩ (.float .f64 e0)).setCell ⟨D, 1, none⟩ (.float .f64 e1)).heap[B]? = w.heap[B]? := by
    rw [Below.heap_setCell _ _ _ _ n, Below.heap_setCell _ _ _ _ n]
  exact ⟨(World.cell?_of_block hb).trans h.1, (World.cell?_of_block hb).trans h.2.1, (World.frozen?_of_block hb).trans h.2.2.1, (World.frozen?_of_block hb).trans h.2.2.2⟩

theorem own_cap {w : World} {base : Nat} {e : TypeId} {size g n cap : Nat} {xs : List Value} (h : w.ownsRow base e size (.slice (some ⟨g, 0, none⟩) n cap) n xs) : n ≤ cap := by
  rcases h.2 with ⟨h', _⟩ | ⟨g', cap', cur, h', _, _, hc, _⟩
  · simp at h'
  · simp only [Value.slice.injEq, Option.some.injEq, Addr.mk.injEq, and_true, true_and] at h'
    omega

/-- The points, and the cell that holds a. -/
def Env (w : World) (AB pb qb ob V0 p0 p1 o0 o1 : Nat) : Prop :=
  w.cell? ⟨AB, 0, none⟩ = some (.slice (some ⟨qb, 0, none⟩) 2 2) ∧ w.cell? ⟨pb, 0, none⟩ = some (.float .f64 p0) ∧ w.cell? ⟨pb, 1, none⟩ = some (.float .f64 p1) ∧
  w.cell? ⟨qb, 0, none⟩ = some (.float .f64 0) ∧ w.cell? ⟨qb, 1, none⟩ = some (.float .f64 0) ∧ w.cell? ⟨ob, 0, none⟩ = some (.float .f64 o0) ∧ w.cell? ⟨ob, 1, none⟩ = some (.float .f64 o1) ∧ w.cell? ⟨V0, 0, none⟩ = some (.slice (some ⟨ob, 0, none⟩) 2 2)
theorem Env.kept {w w' : World} {AB pb qb ob V0 p0 p1 o0 o1 : Nat} (h : Env w AB pb qb ob V0 p0 p1 o0 o1) (hb : Below w.heap.size w w') : Env w' AB pb qb ob V0 p0 p1 o0 o1 :=
  ⟨A.kept h.1 hb, A.kept h.2.1 hb, A.kept h.2.2.1 hb, A.kept h.2.2.2.1 hb, A.kept h.2.2.2.2.1 hb, A.kept h.2.2.2.2.2.1 hb, A.kept h.2.2.2.2.2.2.1 hb, A.kept h.2.2.2.2.2.2.2 hb⟩

set_option maxRecDepth 100000 in
set_option maxHeartbeats 8000000 in
theorem borders_one_at (pb qb ob V0 p0 p1 o0 o1 : Nat) (T : Bool) (w : World) (g dB0 dB1 gB0 s0 s1 x y dO0 dO1 gO0 u0 v0 u1 v1 q0 q1 z0 z1 x1 y1 z2 z3 b bt e0 e1 rt m1 m2 dd n1 n2 n3 co k1 k2 k3 c1 sd k4 sz1 gB gO t1 t2 te t3 t4 c2 l cf c sz ml : Nat) (ex : Int)
    (HALL : Hid (Hid (gapF 0 0 = some g) ∧ Hid (movedF 0 0 p0 p1 g = some (dB0, dB1, gB0)) ∧ Hid (floatBits .sub .f64 p0 0 = some s0) ∧ Hid (floatBits .sub .f64 p1 0 = some s1) ∧ Hid (quoF s0 s1 dB0 dB1 = some (x, y)) ∧ Hid (movedF 0 0 o0 o1 g = some (dO0, dO1, gO0)) ∧ Hid (floatBits .sub .f64 o0 p0 = some u0) ∧ Hid (floatBits .mul .f64 u0 g = some v0) ∧ Hid (floatBits .sub .f64 o1 p1 = some u1) ∧ Hid (floatBits .mul .f64 u1 g = some v1) ∧ Hid (quoF v0 v1 dO0 dO1 = some (q0, q1)) ∧ Hid (quoF q0 q1 dB0 dB1 = some (z0, z1)) ∧ Hid (scaleF x y z0 z1 = some (ex, x1, y1, z2, z3)) ∧ Hid (ldexpF one (-ex) = some b) ∧ Hid (hypF x1 y1 = some bt) ∧ Hid (floatBits .quo .f64 x1 bt = some e0) ∧ Hid (floatBits .quo .f64 y1 bt = some e1) ∧ Hid (sqt gB0 = some rt) ∧ Hid (floatBits .mul .f64 z2 z2 = some m1) ∧ Hid (floatBits .mul .f64 z3 z3 = some m2) ∧ Hid (floatBits .add .f64 m1 m2 = some dd) ∧ Hid (floatBits .mul .f64 e0 z3 = some n1) ∧ Hid (floatBits .mul .f64 e1 z2 = some n2) ∧ Hid (floatBits .sub .f64 n1 n2 = some n3) ∧ Hid (floatBits .mul .f64 rt n3 = some co) ∧ Hid (floatBits .mul .f64 x1 z2 = some k1) ∧ Hid (floatBits .mul .f64 y1 z3 = some k2) ∧ Hid (floatBits .add .f64 k1 k2 = some k3) ∧ Hid (floatBits .add .f64 k3 dd = some c1) ∧ Hid (sqt dd = some sd) ∧ Hid (floatBits .mul .f64 bt sd = some k4) ∧ Hid (floatBits .add .f64 k4 dd = some sz1) ∧ Hid (ldexpF gB0 (-2 * ex) = some gB) ∧ Hid (ldexpF gO0 (-2 * ex) = some gO) ∧ Hid (floatBits .add .f64 gB gO = some t1) ∧ Hid (floatBits .add .f64 t1 dd = some t2) ∧ Hid (floatBits .quo .f64 t2 4611686018427387904 = some te) ∧ Hid (floatBits .sub .f64 gB gO = some t3) ∧ Hid (floatBits .add .f64 t3 dd = some t4) ∧ Hid (floatBits .quo .f64 t4 4611686018427387904 = some c2) ∧ Hid (hypF co (pickC (ord te sz1 == some .lt) c2 c1) = some l) ∧ Hid (floatBits .quo .f64 co l = some cf) ∧ Hid (floatBits .quo .f64 (pickC (ord te sz1 == some .lt) c2 c1) l = some c) ∧ Hid (floatBits .quo .f64 (pickC (ord te sz1 == some .lt) te sz1) l = some sz) ∧ Hid (floatBits .mul .f64 13650858631089744401 sz = some ml)))
    (hp0 : w.cell? ⟨pb, 0, none⟩ = some (.float .f64 p0)) (hp1 : w.cell? ⟨pb, 1, none⟩ = some (.float .f64 p1)) (ha0 : w.cell? ⟨qb, 0, none⟩ = some (.float .f64 0)) (ha1 : w.cell? ⟨qb, 1, none⟩ = some (.float .f64 0))
    (ho0 : w.cell? ⟨ob, 0, none⟩ = some (.float .f64 o0)) (ho1 : w.cell? ⟨ob, 1, none⟩ = some (.float .f64 o1)) (hV0 : w.cell? ⟨V0, 0, none⟩ = some (.slice (some ⟨ob, 0, none⟩) 2 2))
    (hl : (ord l 0 == some .gt) = true) (hb0 : (ord 0 b == some .lt || ord 0 b == some .eq) = true)
    (hcf : (ord (absB cf) 4427486594234968593 == some .lt || ord (absB cf) 4427486594234968593 == some .eq) = true) (hT : (ord c ml == some .lt) = T) (hne : (ord p0 0 == some .eq && ord p1 0 == some .eq) = false) :
    Calls Yba.prog 9 #[.agg #[], .slice (some ⟨qb, 0, none⟩) 2 2, .slice (some ⟨pb, 0, none⟩) 2 2, .slice (some ⟨V0, 0, none⟩) 1 1] w fun e w' => e = .returned (.bool (!T)) ∧ Below w.heap.size w w' := by
  have HL := hidden hl
  have HB0 := hidden hb0
  have HCF := hidden hcf
  have HT := hidden hT
  clear hl hb0 hcf hT
  have had := alloc_drewN
  have hsd := setCell_drewN
  have kk : ∀ (o1 o2 o3 : Obj) {p : Addr} {v : Value}, w.cell? p = some v → (((w.alloc o1).alloc o2).alloc o3).cell? p = some v := fun o1 o2 o3 p v h => kept h (below_3 w o1 o2 o3)
  have HK := hidden (fun o1 o2 o3 => kk o1 o2 o3 hV0)
  clear kk
  go_enter Yba.func9, Yba.ntmps9
  go_upto_region 2 with (go_at_call 17; refine (twoC_two _ 2 2 (some ⟨qb, 0, none⟩) (some ⟨pb, 0, none⟩) _ (by go_simp; done) (by go_simp; done)).mono ?_; rintro e w1 ⟨rfl, rfl⟩)
  go_upto_region 3 with (go_at_call 17; refine (twoC_one V0 2 (some ⟨ob, 0, none⟩) _ (HK.out _ _ _)).mono ?_; rintro e w1 ⟨rfl, rfl⟩)
  go_cut [58] (fun v wx => v = .bool (ord p0 0 == some .eq && ord p1 0 == some .eq) ∧ wx.cell? ⟨w.heap.size + 1, 0, none⟩ = some (.slice (some ⟨qb, 0, none⟩) 2 2) ∧ Below w.heap.size w wx)
  case first => as_aux_lemma =>
    have kk : ∀ (o1 o2 o3 : Obj) {p : Addr} {v : Value}, w.cell? p = some v → (((w.alloc o1).alloc o2).alloc o3).cell? p = some v := fun o1 o2 o3 p v h => kept h (below_3 w o1 o2 o3)
    have kp0 := fun o1 o2 o3 => kk o1 o2 o3 hp0
    have kp1 := fun o1 o2 o3 => kk o1 o2 o3 hp1
    have ka0 := fun o1 o2 o3 => kk o1 o2 o3 ha0
    have ka1 := fun o1 o2 o3 => kk o1 o2 o3 ha1
    clear kk
    cases h0 : (ord p0 0 == some .eq) <;> cases h1 : (ord p1 0 == some .eq)
    all_goals
      go_region
      go_wp2
      go_meet
      exact ⟨by rw [h0, h1]; rfl, by go_simp, below_drewN (below_3 _ _ _ _) _⟩
  case rest =>
    obtain ⟨rfl, kA, hbel⟩ := hcut
    clear HK
    rw [hne]
    clear hne
    have hE : Env wc (w.heap.size + 1) pb qb ob V0 p0 p1 o0 o1 := ⟨kA, kept hp0 hbel, kept hp1 hbel, kept ha0 hbel, kept ha1 hbel, kept ho0 hbel, kept ho1 hbel, kept hV0 hbel⟩
    clear hp0 hp1 ha0 ha1 ho0 ho1 hV0 kA
    obtain ⟨AB, hAB⟩ : ∃ AB, AB = w.heap.size + 1 := ⟨_, rfl⟩
    rw [← hAB] at hE ⊢
    clear hAB
    have kA := hE.1
    go_upto_region 6 with (go_at_call 18; refine (rimGap_any qb 0 2 0 0 _ hE.2.2.2.1 hE.2.2.2.2.1).mono ?_; rintro e w1 ⟨g', dg, rfl, hg, rfl, hgF⟩; obtain rfl := (hgF _ (HALL.out.1).out).symm; clear hg hgF)
    clear kA
    have hW := (Below.refl wc.heap.size wc).alloc (Nat.le_refl _) (.cells #[.float .f64 g] 22)
    have hEW := hE.kept hW
    have hGW : (wc.alloc (.cells #[.float .f64 g] 22)).cell? ⟨wc.heap.size, 0, none⟩ = some (.float .f64 g) := by clear hE hEW; go_simp
    have HEW := hidden hEW
    have HE := hidden hE
    clear hE hEW
    go_upto_region 8 with (go_at_call 19; refine (moved_any AB wc.heap.size pb qb 0 0 p0 p1 g ((wc.alloc (.cells #[.float .f64 g] 22)).drewN dg) HEW.out.1 hGW HEW.out.2.1 HEW.out.2.2.1 HEW.out.2.2.2.1 HEW.out.2.2.2.2.1).mono ?_; rintro e w2 ⟨r0, r1, r2, rfl, l0, l1, l2, hb2, hv2⟩; have hv := hv2 _ (HALL.out.2.1).out; simp only [Prod.mk.injEq] at hv; obtain ⟨rfl, rfl, rfl⟩ := hv; have HL2 := hidden l2; have HBW := hidden hb2; clear l0 l1 l2 hv2 hb2)
    obtain ⟨W, hWd⟩ : ∃ W, W = w2.alloc (.cells #[.float .f64 dB0, .float .f64 dB1] 25) := ⟨_, rfl⟩
    obtain ⟨DB, hDB⟩ : ∃ DB, DB = w2.heap.size := ⟨_, rfl⟩
    obtain ⟨G, hGd⟩ : ∃ G, G = wc.heap.size := ⟨_, rfl⟩
    have hb3 : Below (wc.alloc (.cells #[.float .f64 g] 22)).heap.size (wc.alloc (.cells #[.float .f64 g] 22)) W := by
      rw [hWd]
      exact ((below_drewN (Below.refl _ _) dg).trans HBW.out).alloc HBW.out.size _
    have hP : Pair W DB dB0 dB1 := by rw [hWd, hDB]; exact Pair.new _ _ _ _
    have hE := HEW.out.kept hb3
    have hG : W.cell? ⟨G, 0, none⟩ = some (.float .f64 g) := by rw [hGd]; exact kept hGW hb3
    have hbW : Below w.heap.size w W := hbel.trans ((hW.trans (hb3.mono hW.size)).mono hbel.size)
    rw [← hWd, ← hDB, ← hGd]
    clear hWd hDB hGd hb3 HEW HE hGW hW hbel HBW
    go_cut [13] (fun v wx => ∃ BM, v = .pointer (some ⟨BM, 0, none⟩) ∧ w.heap.size ≤ BM ∧ Pair wx BM x y ∧ Env wx AB pb qb ob V0 p0 p1 o0 o1 ∧ wx.cell? ⟨G, 0, none⟩ = some (.float .f64 g) ∧ wx.cell? ⟨DB, 0, none⟩ = some (.float .f64 dB0) ∧ wx.cell? ⟨DB, 1, none⟩ = some (.float .f64 dB1) ∧ Below w.heap.size w wx ∧ Hid (x < 2 ^ 64 ∧ y < 2 ^ 64))
    case first => as_aux_lemma =>
      refine wp_region_noPanic ?_
      obtain ⟨S, hSdef⟩ : ∃ S : World → Prop, S = (fun w' : World => w'.cell? ⟨AB, 0, none⟩ = some (.slice (some ⟨qb, 0, none⟩) 2 2) ∧ w'.cell? ⟨pb, 0, none⟩ = some (.float .f64 p0) ∧ w'.cell? ⟨pb, 1, none⟩ = some (.float .f64 p1) ∧ w'.cell? ⟨qb, 0, none⟩ = some (.float .f64 0) ∧ w'.cell? ⟨qb, 1, none⟩ = some (.float .f64 0) ∧ w'.cell? ⟨DB, 0, none⟩ = some (.float .f64 dB0) ∧ w'.cell? ⟨DB, 1, none⟩ = some (.float .f64 dB1)) := ⟨_, rfl⟩
      have hCalm : Calm S := by rw [hSdef]; exact fun _ _ h => h
      refine wp_region_D S (by as_aux_lemma => kernel_rfl) ?_
      have hStep : ∀ w', Below W.heap.size W w' → S w' := fun w' hb => by
        rw [hSdef]
        exact ⟨kept hE.1 hb, kept hE.2.1 hb, kept hE.2.2.1 hb, kept hE.2.2.2.1 hb, kept hE.2.2.2.2.1 hb, kept hP.1 hb, kept hP.2.1 hb⟩
      have hHeld : S (W.drewN 1) := by
        rw [hSdef]
        exact ⟨hE.1, hE.2.1, hE.2.2.1, hE.2.2.2.1, hE.2.2.2.2.1, hP.1, hP.2.1⟩
      refine getV 0 (.slice (some ⟨pb, 0, none⟩) 2 2) rfl (some 68) (by as_aux_lemma => kernel_rfl) (by as_aux_lemma => kernel_rfl) (by as_aux_lemma => kernel_rfl) (by as_aux_lemma => kernel_rfl) (by as_aux_lemma => kernel_rfl) hCalm hHeld (fun w' hS => by rw [hSdef] at hS; obtain ⟨g1, g2, g3, g4, g5, g6, g7⟩ := hS; go_simp) ?_
      simp only [Act.put, List.setIfInBounds_toArray, List.set_cons_zero, List.set_cons_succ]
      refine getV 1 (.pointer (some ⟨pb, 0, none⟩)) rfl (some 69) (by as_aux_lemma => kernel_rfl) (by as_aux_lemma => kernel_rfl) (by as_aux_lemma => kernel_rfl) (by as_aux_lemma => kernel_rfl) (by as_aux_lemma => kernel_rfl) hCalm hHeld (fun w' hS => by rw [hSdef] at hS; obtain ⟨g1, g2, g3, g4, g5, g6, g7⟩ := hS; go_simp) ?_
      simp only [Act.put, List.setIfInBounds_toArray, List.set_cons_zero, List.set_cons_succ]
      refine getV 2 (.float .f64 p0) rfl (some 70) (by as_aux_lemma => kernel_rfl) (by as_aux_lemma => kernel_rfl) (by as_aux_lemma => kernel_rfl) (by as_aux_lemma => kernel_rfl) (by as_aux_lemma => kernel_rfl) hCalm hHeld (fun w' hS => by rw [hSdef] at hS; obtain ⟨g1, g2, g3, g4, g5, g6, g7⟩ := hS; go_simp) ?_
      simp only [Act.put, List.setIfInBounds_toArray, List.set_cons_zero, List.set_cons_succ]
      refine getV 3 (.slice (some ⟨qb, 0, none⟩) 2 2) rfl (some 71) (by as_aux_lemma => kernel_rfl) (by as_aux_lemma => kernel_rfl) (by as_aux_lemma => kernel_rfl) (by as_aux_lemma => kernel_rfl) (by as_aux_lemma => kernel_rfl) hCalm hHeld (fun w' hS => by rw [hSdef] at hS; obtain ⟨g1, g2, g3, g4, g5, g6, g7⟩ := hS; go_simp) ?_
      simp only [Act.put, List.setIfInBounds_toArray, List.set_cons_zero, List.set_cons_succ]
      refine getV 4 (.pointer (some ⟨qb, 0, none⟩)) rfl (some 72) (by as_aux_lemma => kernel_rfl) (by as_aux_lemma => kernel_rfl) (by as_aux_lemma => kernel_rfl) (by as_aux_lemma => kernel_rfl) (by as_aux_lemma => kernel_rfl) hCalm hHeld (fun w' hS => by rw [hSdef] at hS; obtain ⟨g1, g2, g3, g4, g5, g6, g7⟩ := hS; go_simp) ?_
      simp only [Act.put, List.setIfInBounds_toArray, List.set_cons_zero, List.set_cons_succ]
      refine getV 5 (.float .f64 0) rfl (some 73) (by as_aux_lemma => kernel_rfl) (by as_aux_lemma => kernel_rfl) (by as_aux_lemma => kernel_rfl) (by as_aux_lemma => kernel_rfl) (by as_aux_lemma => kernel_rfl) hCalm hHeld (fun w' hS => by rw [hSdef] at hS; obtain ⟨g1, g2, g3, g4, g5, g6, g7⟩ := hS; go_simp) ?_
      simp only [Act.put, List.setIfInBounds_toArray, List.set_cons_zero, List.set_cons_succ]
      refine getF 6 [14, 16, 18] .sub 22 22 (.tmp 70) (.tmp 73) p0 0 rfl rfl (.inr (.inl rfl)) (some 74) (by as_aux_lemma => kernel_rfl) (by as_aux_lemma => kernel_rfl) (by as_aux_lemma => kernel_rfl) (by as_aux_lemma => kernel_rfl) (by as_aux_lemma => kernel_rfl) (by as_aux_lemma => kernel_rfl) (by as_aux_lemma => kernel_rfl) hCalm hHeld (by as_aux_lemma => kernel_rfl) (by as_aux_lemma => kernel_rfl) ?_
      intro rr hrr
      obtain rfl := fix hrr (HALL.out.2.2.1)
      clear hrr
      simp only [Act.put, List.setIfInBounds_toArray, List.set_cons_zero, List.set_cons_succ]
      refine getV 7 (.slice (some ⟨pb, 0, none⟩) 2 2) rfl (some 75) (by as_aux_lemma => kernel_rfl) (by as_aux_lemma => kernel_rfl) (by as_aux_lemma => kernel_rfl) (by as_aux_lemma => kernel_rfl) (by as_aux_lemma => kernel_rfl) hCalm hHeld (fun w' hS => by rw [hSdef] at hS; obtain ⟨g1, g2, g3, g4, g5, g6, g7⟩ := hS; go_simp) ?_
      simp only [Act.put, List.setIfInBounds_toArray, List.set_cons_zero, List.set_cons_succ]
      refine getV 8 (.pointer (some ⟨pb, 1, none⟩)) rfl (some 76) (by as_aux_lemma => kernel_rfl) (by as_aux_lemma => kernel_rfl) (by as_aux_lemma => kernel_rfl) (by as_aux_lemma => kernel_rfl) (by as_aux_lemma => kernel_rfl) hCalm hHeld (fun w' hS => by rw [hSdef] at hS; obtain ⟨g1, g2, g3, g4, g5, g6, g7⟩ := hS; go_simp) ?_
      simp only [Act.put, List.setIfInBounds_toArray, List.set_cons_zero, List.set_cons_succ]
      refine getV 9 (.float .f64 p1) rfl (some 77) (by as_aux_lemma => kernel_rfl) (by as_aux_lemma => kernel_rfl) (by as_aux_lemma => kernel_rfl) (by as_aux_lemma => kernel_rfl) (by as_aux_lemma => kernel_rfl) hCalm hHeld (fun w' hS => by rw [hSdef] at hS; obtain ⟨g1, g2, g3, g4, g5, g6, g7⟩ := hS; go_simp) ?_
      simp only [Act.put, List.setIfInBounds_toArray, List.set_cons_zero, List.set_cons_succ]
      refine getV 10 (.slice (some ⟨qb, 0, none⟩) 2 2) rfl (some 78) (by as_aux_lemma => kernel_rfl) (by as_aux_lemma => kernel_rfl) (by as_aux_lemma => kernel_rfl) (by as_aux_lemma => kernel_rfl) (by as_aux_lemma => kernel_rfl) hCalm hHeld (fun w' hS => by rw [hSdef] at hS; obtain ⟨g1, g2, g3, g4, g5, g6, g7⟩ := hS; go_simp) ?_
      simp only [Act.put, List.setIfInBounds_toArray, List.set_cons_zero, List.set_cons_succ]
      refine getV 11 (.pointer (some ⟨qb, 1, none⟩)) rfl (some 79) (by as_aux_lemma => kernel_rfl) (by as_aux_lemma => kernel_rfl) (by as_aux_lemma => kernel_rfl) (by as_aux_lemma => kernel_rfl) (by as_aux_lemma => kernel_rfl) hCalm hHeld (fun w' hS => by rw [hSdef] at hS; obtain ⟨g1, g2, g3, g4, g5, g6, g7⟩ := hS; go_simp) ?_
      simp only [Act.put, List.setIfInBounds_toArray, List.set_cons_zero, List.set_cons_succ]
      refine getV 12 (.float .f64 0) rfl (some 80) (by as_aux_lemma => kernel_rfl) (by as_aux_lemma => kernel_rfl) (by as_aux_lemma => kernel_rfl) (by as_aux_lemma => kernel_rfl) (by as_aux_lemma => kernel_rfl) hCalm hHeld (fun w' hS => by rw [hSdef] at hS; obtain ⟨g1, g2, g3, g4, g5, g6, g7⟩ := hS; go_simp) ?_
      simp only [Act.put, List.setIfInBounds_toArray, List.set_cons_zero, List.set_cons_succ]
      refine getF 13 [14, 16, 18] .sub 22 22 (.tmp 77) (.tmp 80) p1 0 rfl rfl (.inr (.inl rfl)) (some 81) (by as_aux_lemma => kernel_rfl) (by as_aux_lemma => kernel_rfl) (by as_aux_lemma => kernel_rfl) (by as_aux_lemma => kernel_rfl) (by as_aux_lemma => kernel_rfl) (by as_aux_lemma => kernel_rfl) (by as_aux_lemma => kernel_rfl) hCalm hHeld (by as_aux_lemma => kernel_rfl) (by as_aux_lemma => kernel_rfl) ?_
      intro rr hrr
      obtain rfl := fix hrr (HALL.out.2.2.2.1)
      clear hrr
      simp only [Act.put, List.setIfInBounds_toArray, List.set_cons_zero, List.set_cons_succ]
      refine getV 14 (.agg #[.float .f64 s0, .float .f64 s1]) rfl (some 82) (by as_aux_lemma => kernel_rfl) (by as_aux_lemma => kernel_rfl) (by as_aux_lemma => kernel_rfl) (by as_aux_lemma => kernel_rfl) (by as_aux_lemma => kernel_rfl) hCalm hHeld (fun w' hS => by rw [hSdef] at hS; obtain ⟨g1, g2, g3, g4, g5, g6, g7⟩ := hS; go_simp) ?_
      simp only [Act.put, List.setIfInBounds_toArray, List.set_cons_zero, List.set_cons_succ]
      refine getV 15 (.agg #[.float .f64 dB0, .float .f64 dB1]) rfl (some 83) (by as_aux_lemma => kernel_rfl) (by as_aux_lemma => kernel_rfl) (by as_aux_lemma => kernel_rfl) (by as_aux_lemma => kernel_rfl) (by as_aux_lemma => kernel_rfl) hCalm hHeld (fun w' hS => by rw [hSdef] at hS; obtain ⟨g1, g2, g3, g4, g5, g6, g7⟩ := hS; go_simp) ?_
      simp only [Act.put, List.setIfInBounds_toArray, List.set_cons_zero, List.set_cons_succ]
      have hQuo : ∀ W', Below W.heap.size W W' → ∀ d, Calls Yba.prog 20 #[.agg #[.float .f64 s0, .float .f64 s1], .agg #[.float .f64 dB0, .float .f64 dB1]] ((W'.drewN 1).drewN d) fun e w' => ∃ v, e = .returned v ∧ S w' ∧ v = .agg #[.float .f64 x, .float .f64 y] ∧ Below W'.heap.size W' w' ∧ Hid (x < 2 ^ 64 ∧ y < 2 ^ 64) := fun W' hW' d => by
        refine (quo_any s0 s1 dB0 dB1 _).mono ?_
        rintro e w' ⟨x', y', rfl, hx, hy, hb, hv⟩
        have hv := hv _ (HALL.out.2.2.2.2.1).out
        simp only [Prod.mk.injEq] at hv
        obtain ⟨rfl, rfl⟩ := hv
        have hb' : Below W'.heap.size W' w' := (below_drewN (below_drewN (Below.refl _ _) 1) d).trans hb
        exact ⟨_, rfl, hStep _ (hW'.trans (hb'.mono hW'.size)), rfl, hb', hx, hy⟩
      refine both 16 17 (by as_aux_lemma => kernel_rfl) ?_ ?_
      · refine wayC 16 20 #[.agg #[.float .f64 s0, .float .f64 s1], .agg #[.float .f64 dB0, .float .f64 dB1]] (fun v w' => v = .agg #[.float .f64 x, .float .f64 y] ∧ Below W.heap.size W w' ∧ Hid (x < 2 ^ 64 ∧ y < 2 ^ 64)) rfl (some 84) (by as_aux_lemma => kernel_rfl) (by as_aux_lemma => kernel_rfl) (fun d => by clear hQuo; go_simp) (hQuo _ (Below.refl _ _)) ?_
        rintro _ w3 hS3 ⟨rfl, hb6, hxy⟩
        simp only [Act.put, List.setIfInBounds_toArray, List.set_cons_zero, List.set_cons_succ]
        refine soleV 17 (.pointer (some ⟨w3.heap.size, 0, none⟩)) (w3.alloc (.cells #[.float .f64 0, .float .f64 0] 25)) rfl (some 13) (by as_aux_lemma => kernel_rfl) (by as_aux_lemma => kernel_rfl) (by as_aux_lemma => kernel_rfl) hCalm (hStep _ (hb6.alloc hb6.size _)) (fun d => by clear hHeld hCalm hSdef hStep hS3 hQuo; go_simp) ?_
        simp only [Act.put, List.setIfInBounds_toArray, List.set_cons_zero, List.set_cons_succ]
        refine soleS 18 (w3.alloc (.cells #[.float .f64 x, .float .f64 y] 25)) rfl none (by as_aux_lemma => kernel_rfl) (by as_aux_lemma => kernel_rfl) (by as_aux_lemma => kernel_rfl) hCalm (hStep _ (hb6.alloc hb6.size _)) (fun d => by clear hHeld hCalm hSdef hStep hS3 hQuo; go_simp) ?_
        simp only [Act.put, List.setIfInBounds_toArray, List.set_cons_zero, List.set_cons_succ]
        refine doneD (by as_aux_lemma => kernel_rfl) (fun d => ?_)
        clear hQuo hHeld hCalm hSdef hStep hS3
        go_wp2
        go_meet
        have hb7 := below_drewN (hb6.alloc hb6.size (.cells #[.float .f64 x, .float .f64 y] 25)) d
        exact ⟨w3.heap.size, rfl, Nat.le_trans hbW.size hb6.size, (Pair.new _ _ _ _).drewN d, hE.kept hb7, kept hG hb7, kept hP.1 hb7, kept hP.2.1 hb7, hbW.trans (hb7.mono hbW.size), hxy⟩
      · have hb5 : Below W.heap.size W (W.alloc (.cells #[.float .f64 0, .float .f64 0] 25)) := (Below.refl _ _).alloc (Nat.le_refl _) _
        refine wayV 17 (.pointer (some ⟨W.heap.size, 0, none⟩)) ((W.alloc (.cells #[.float .f64 0, .float .f64 0] 25)).drewN 1) rfl (some 13) (by as_aux_lemma => kernel_rfl) (by as_aux_lemma => kernel_rfl) hCalm (hStep _ (below_drewN hb5 1)) (fun d => by clear hHeld hCalm hSdef hStep hQuo; go_simp) ?_
        simp only [Act.put, List.setIfInBounds_toArray, List.set_cons_zero, List.set_cons_succ]
        refine soleC 16 20 #[.agg #[.float .f64 s0, .float .f64 s1], .agg #[.float .f64 dB0, .float .f64 dB1]] (fun v w' => v = .agg #[.float .f64 x, .float .f64 y] ∧ Below (W.alloc (.cells #[.float .f64 0, .float .f64 0] 25)).heap.size (W.alloc (.cells #[.float .f64 0, .float .f64 0] 25)) w' ∧ Hid (x < 2 ^ 64 ∧ y < 2 ^ 64)) rfl (some 84) (by as_aux_lemma => kernel_rfl) (by as_aux_lemma => kernel_rfl) (by as_aux_lemma => kernel_rfl) (fun d => by clear hQuo; go_simp) (hQuo _ hb5) ?_
        rintro _ w3 hS3 ⟨rfl, hb6, hxy⟩
        have hP3 : Pair w3 W.heap.size 0 0 := (Pair.new W 0 0 25).below hb6 (by simp)
        have hb7 : Below W.heap.size W w3 := hb5.trans (hb6.mono hb5.size)
        have hb8 := (hb7.setCell (p := ⟨W.heap.size, 0, none⟩) (Nat.le_refl _) (.float .f64 x)).setCell (p := ⟨W.heap.size, 1, none⟩) (Nat.le_refl _) (.float .f64 y)
        simp only [Act.put, List.setIfInBounds_toArray, List.set_cons_zero, List.set_cons_succ]
        refine soleS 18 ((w3.setCell ⟨W.heap.size, 0, none⟩ (.float .f64 x)).setCell ⟨W.heap.size, 1, none⟩ (.float .f64 y)) rfl none (by as_aux_lemma => kernel_rfl) (by as_aux_lemma => kernel_rfl) (by as_aux_lemma => kernel_rfl) hCalm (hStep _ hb8) (fun d => by clear hHeld hCalm hSdef hStep hS3 hQuo hb8 hb7 hb5 hb6; obtain ⟨c0, c1, f0, f1⟩ := hP3; go_simp) ?_
        simp only [Act.put, List.setIfInBounds_toArray, List.set_cons_zero, List.set_cons_succ]
        refine doneD (by as_aux_lemma => kernel_rfl) (fun d => ?_)
        clear hQuo hHeld hCalm hSdef hStep hS3
        go_wp2
        go_meet
        have hb9 := below_drewN hb8 d
        exact ⟨W.heap.size, rfl, hbW.size, (hP3.set x y).drewN d, hE.kept hb9, kept hG hb9, kept hP.1 hb9, kept hP.2.1 hb9, hbW.trans (hb9.mono hbW.size), hxy⟩
    case rest =>
      clear hE hP hG hbW
      obtain ⟨BM, rfl, lBM, hP, hE, hG, hD0, hD1, hbW, hxy⟩ := hcut
      go_upto_region 12 with fail
      refine wp_loop_rounds 2 ?_
      rw [rounds_succ]
      have lB : BM < wc.heap.size := World.block_lt_of_cell? wc _ hP.1
      obtain ⟨W1, hW1d⟩ : ∃ W1, W1 = wc.alloc (.cells #[.slice (some ⟨BM, 0, none⟩) 2 2] 26) := ⟨_, rfl⟩
      have hA : Below wc.heap.size wc W1 := by rw [hW1d]; exact (Below.refl wc.heap.size wc).alloc (Nat.le_refl _) _
      have hrow : W1.heap[wc.heap.size]? = some (.cells #[.slice (some ⟨BM, 0, none⟩) 2 2] 26) := by rw [hW1d]; exact heap_alloc_new _ _
      have hP1 := hP.kept hA
      have hE1 := hE.kept hA
      have hG1 := kept hG hA
      have hD01 := kept hD0 hA
      have hD11 := kept hD1 hA
      have hbW1 := hbW.trans (hA.mono hbW.size)
      have lW1 : w.heap.size ≤ wc.heap.size := hbW.size
      obtain ⟨V1, hV1d⟩ : ∃ V1, V1 = wc.heap.size := ⟨_, rfl⟩
      rw [← hV1d] at hrow lB lW1
      rw [← hW1d, ← hV1d]
      clear hP hE hG hD0 hD1 hbW hA hW1d hV1d
      have kV := hE1.2.2.2.2.2.2.2
      go_upto_region 14 with fail
      clear kV
      have HE1 := hidden hE1
      clear hE1
      go_upto_region 15 with (go_at_call 19; refine (moved_any AB G ob qb 0 0 o0 o1 g W1 HE1.out.1 hG1 HE1.out.2.2.2.2.2.1 HE1.out.2.2.2.2.2.2.1 HE1.out.2.2.2.1 HE1.out.2.2.2.2.1).mono ?_; rintro e w2 ⟨r0, r1, r2, rfl, l0, l1, l2, hb2, hv2⟩; have hv := hv2 _ (HALL.out.2.2.2.2.2.1).out; simp only [Prod.mk.injEq] at hv; obtain ⟨rfl, rfl, rfl⟩ := hv; have HL3 := hidden l2; have HBW := hidden hb2; clear l0 l1 l2 hv2 hb2)
      obtain ⟨W, hWd⟩ : ∃ W, W = w2.alloc (.cells #[.float .f64 dO0, .float .f64 dO1] 25) := ⟨_, rfl⟩
      obtain ⟨DO, hDOd⟩ : ∃ DO, DO = w2.heap.size := ⟨_, rfl⟩
      have hb3 : Below W1.heap.size W1 W := by rw [hWd]; exact HBW.out.alloc HBW.out.size _
      have hO : Pair W DO dO0 dO1 := by rw [hWd, hDOd]; exact Pair.new _ _ _ _
      have hE := HE1.out.kept hb3
      have hG := kept hG1 hb3
      have hD0 := kept hD01 hb3
      have hD1 := kept hD11 hb3
      have hP := hP1.kept hb3
      have hrowW := row_kept hrow hb3
      have hbW := hbW1.trans (hb3.mono hbW1.size)
      rw [← hWd, ← hDOd]
      clear hWd hDOd hb3 HE1 hG1 hD01 hD11 hP1 hrow hbW1 HBW
      go_cut [20] (fun v wx => ∃ D, v = .pointer (some ⟨D, 0, none⟩) ∧ BM < D ∧ V1 < D ∧ Pair wx D z0 z1 ∧ Pair wx BM x y ∧ wx.heap[V1]? = some (.cells #[.slice (some ⟨BM, 0, none⟩) 2 2] 26) ∧ Below w.heap.size w wx ∧ Hid (z0 < 2 ^ 64 ∧ z1 < 2 ^ 64))
      case first => as_aux_lemma =>
        refine wp_region_noPanic ?_
        obtain ⟨S, hSdef⟩ : ∃ S : World → Prop, S = (fun w' : World => w'.cell? ⟨pb, 0, none⟩ = some (.float .f64 p0) ∧ w'.cell? ⟨pb, 1, none⟩ = some (.float .f64 p1) ∧ w'.cell? ⟨ob, 0, none⟩ = some (.float .f64 o0) ∧ w'.cell? ⟨ob, 1, none⟩ = some (.float .f64 o1) ∧ w'.cell? ⟨G, 0, none⟩ = some (.float .f64 g) ∧ w'.cell? ⟨DO, 0, none⟩ = some (.float .f64 dO0) ∧ w'.cell? ⟨DO, 1, none⟩ = some (.float .f64 dO1) ∧ w'.cell? ⟨DB, 0, none⟩ = some (.float .f64 dB0) ∧ w'.cell? ⟨DB, 1, none⟩ = some (.float .f64 dB1)) := ⟨_, rfl⟩
        have hCalm : Calm S := by rw [hSdef]; exact fun _ _ h => h
        refine wp_region_D S (by as_aux_lemma => kernel_rfl) ?_
        have hStep : ∀ w', Below W.heap.size W w' → S w' := fun w' hb => by
          rw [hSdef]
          exact ⟨kept hE.2.1 hb, kept hE.2.2.1 hb, kept hE.2.2.2.2.2.1 hb, kept hE.2.2.2.2.2.2.1 hb, kept hG hb, kept hO.1 hb, kept hO.2.1 hb, kept hD0 hb, kept hD1 hb⟩
        have hHeld : S (W.drewN 1) := by
          rw [hSdef]
          exact ⟨hE.2.1, hE.2.2.1, hE.2.2.2.2.2.1, hE.2.2.2.2.2.2.1, hG, hO.1, hO.2.1, hD0, hD1⟩
        refine getV 0 (.slice (some ⟨ob, 0, none⟩) 2 2) rfl (some 99) (by as_aux_lemma => kernel_rfl) (by as_aux_lemma => kernel_rfl) (by as_aux_lemma => kernel_rfl) (by as_aux_lemma => kernel_rfl) (by as_aux_lemma => kernel_rfl) hCalm hHeld (fun w' hS => by rw [hSdef] at hS; obtain ⟨g1, g2, g3, g4, g5, g6, g7, g8, g9⟩ := hS; go_simp) ?_
        simp only [Act.put, List.setIfInBounds_toArray, List.set_cons_zero, List.set_cons_succ]
        refine getV 1 (.pointer (some ⟨ob, 0, none⟩)) rfl (some 100) (by as_aux_lemma => kernel_rfl) (by as_aux_lemma => kernel_rfl) (by as_aux_lemma => kernel_rfl) (by as_aux_lemma => kernel_rfl) (by as_aux_lemma => kernel_rfl) hCalm hHeld (fun w' hS => by rw [hSdef] at hS; obtain ⟨g1, g2, g3, g4, g5, g6, g7, g8, g9⟩ := hS; go_simp) ?_
        simp only [Act.put, List.setIfInBounds_toArray, List.set_cons_zero, List.set_cons_succ]
        refine getV 2 (.float .f64 o0) rfl (some 101) (by as_aux_lemma => kernel_rfl) (by as_aux_lemma => kernel_rfl) (by as_aux_lemma => kernel_rfl) (by as_aux_lemma => kernel_rfl) (by as_aux_lemma => kernel_rfl) hCalm hHeld (fun w' hS => by rw [hSdef] at hS; obtain ⟨g1, g2, g3, g4, g5, g6, g7, g8, g9⟩ := hS; go_simp) ?_
        simp only [Act.put, List.setIfInBounds_toArray, List.set_cons_zero, List.set_cons_succ]
        refine getV 3 (.slice (some ⟨pb, 0, none⟩) 2 2) rfl (some 102) (by as_aux_lemma => kernel_rfl) (by as_aux_lemma => kernel_rfl) (by as_aux_lemma => kernel_rfl) (by as_aux_lemma => kernel_rfl) (by as_aux_lemma => kernel_rfl) hCalm hHeld (fun w' hS => by rw [hSdef] at hS; obtain ⟨g1, g2, g3, g4, g5, g6, g7, g8, g9⟩ := hS; go_simp) ?_
        simp only [Act.put, List.setIfInBounds_toArray, List.set_cons_zero, List.set_cons_succ]
        refine getV 4 (.pointer (some ⟨pb, 0, none⟩)) rfl (some 103) (by as_aux_lemma => kernel_rfl) (by as_aux_lemma => kernel_rfl) (by as_aux_lemma => kernel_rfl) (by as_aux_lemma => kernel_rfl) (by as_aux_lemma => kernel_rfl) hCalm hHeld (fun w' hS => by rw [hSdef] at hS; obtain ⟨g1, g2, g3, g4, g5, g6, g7, g8, g9⟩ := hS; go_simp) ?_
        simp only [Act.put, List.setIfInBounds_toArray, List.set_cons_zero, List.set_cons_succ]
        refine getV 5 (.float .f64 p0) rfl (some 104) (by as_aux_lemma => kernel_rfl) (by as_aux_lemma => kernel_rfl) (by as_aux_lemma => kernel_rfl) (by as_aux_lemma => kernel_rfl) (by as_aux_lemma => kernel_rfl) hCalm hHeld (fun w' hS => by rw [hSdef] at hS; obtain ⟨g1, g2, g3, g4, g5, g6, g7, g8, g9⟩ := hS; go_simp) ?_
        simp only [Act.put, List.setIfInBounds_toArray, List.set_cons_zero, List.set_cons_succ]
        refine getF 6 [8, 18, 20, 22, 24] .sub 22 22 (.tmp 101) (.tmp 104) o0 p0 rfl rfl (.inr (.inl rfl)) (some 105) (by as_aux_lemma => kernel_rfl) (by as_aux_lemma => kernel_rfl) (by as_aux_lemma => kernel_rfl) (by as_aux_lemma => kernel_rfl) (by as_aux_lemma => kernel_rfl) (by as_aux_lemma => kernel_rfl) (by as_aux_lemma => kernel_rfl) hCalm hHeld (by as_aux_lemma => kernel_rfl) (by as_aux_lemma => kernel_rfl) ?_
        intro rr hrr
        obtain rfl := fix hrr (HALL.out.2.2.2.2.2.2.1)
        clear hrr
        simp only [Act.put, List.setIfInBounds_toArray, List.set_cons_zero, List.set_cons_succ]
        refine getV 7 (.float .f64 g) rfl (some 106) (by as_aux_lemma => kernel_rfl) (by as_aux_lemma => kernel_rfl) (by as_aux_lemma => kernel_rfl) (by as_aux_lemma => kernel_rfl) (by as_aux_lemma => kernel_rfl) hCalm hHeld (fun w' hS => by rw [hSdef] at hS; obtain ⟨g1, g2, g3, g4, g5, g6, g7, g8, g9⟩ := hS; go_simp) ?_
        simp only [Act.put, List.setIfInBounds_toArray, List.set_cons_zero, List.set_cons_succ]
        refine getF 8 [18, 20, 22, 24] .mul 22 22 (.tmp 105) (.tmp 106) u0 g rfl rfl (.inr (.inr (.inl rfl))) (some 107) (by as_aux_lemma => kernel_rfl) (by as_aux_lemma => kernel_rfl) (by as_aux_lemma => kernel_rfl) (by as_aux_lemma => kernel_rfl) (by as_aux_lemma => kernel_rfl) (by as_aux_lemma => kernel_rfl) (by as_aux_lemma => kernel_rfl) hCalm hHeld (by as_aux_lemma => kernel_rfl) (by as_aux_lemma => kernel_rfl) ?_
        intro rr hrr
        obtain rfl := fix hrr (HALL.out.2.2.2.2.2.2.2.1)
        clear hrr
        simp only [Act.put, List.setIfInBounds_toArray, List.set_cons_zero, List.set_cons_succ]
        refine getV 9 (.slice (some ⟨ob, 0, none⟩) 2 2) rfl (some 108) (by as_aux_lemma => kernel_rfl) (by as_aux_lemma => kernel_rfl) (by as_aux_lemma => kernel_rfl) (by as_aux_lemma => kernel_rfl) (by as_aux_lemma => kernel_rfl) hCalm hHeld (fun w' hS => by rw [hSdef] at hS; obtain ⟨g1, g2, g3, g4, g5, g6, g7, g8, g9⟩ := hS; go_simp) ?_
        simp only [Act.put, List.setIfInBounds_toArray, List.set_cons_zero, List.set_cons_succ]
        refine getV 10 (.pointer (some ⟨ob, 1, none⟩)) rfl (some 109) (by as_aux_lemma => kernel_rfl) (by as_aux_lemma => kernel_rfl) (by as_aux_lemma => kernel_rfl) (by as_aux_lemma => kernel_rfl) (by as_aux_lemma => kernel_rfl) hCalm hHeld (fun w' hS => by rw [hSdef] at hS; obtain ⟨g1, g2, g3, g4, g5, g6, g7, g8, g9⟩ := hS; go_simp) ?_
        simp only [Act.put, List.setIfInBounds_toArray, List.set_cons_zero, List.set_cons_succ]
        refine getV 11 (.float .f64 o1) rfl (some 110) (by as_aux_lemma => kernel_rfl) (by as_aux_lemma => kernel_rfl) (by as_aux_lemma => kernel_rfl) (by as_aux_lemma => kernel_rfl) (by as_aux_lemma => kernel_rfl) hCalm hHeld (fun w' hS => by rw [hSdef] at hS; obtain ⟨g1, g2, g3, g4, g5, g6, g7, g8, g9⟩ := hS; go_simp) ?_
        simp only [Act.put, List.setIfInBounds_toArray, List.set_cons_zero, List.set_cons_succ]
        refine getV 12 (.slice (some ⟨pb, 0, none⟩) 2 2) rfl (some 111) (by as_aux_lemma => kernel_rfl) (by as_aux_lemma => kernel_rfl) (by as_aux_lemma => kernel_rfl) (by as_aux_lemma => kernel_rfl) (by as_aux_lemma => kernel_rfl) hCalm hHeld (fun w' hS => by rw [hSdef] at hS; obtain ⟨g1, g2, g3, g4, g5, g6, g7, g8, g9⟩ := hS; go_simp) ?_
        simp only [Act.put, List.setIfInBounds_toArray, List.set_cons_zero, List.set_cons_succ]
        refine getV 13 (.pointer (some ⟨pb, 1, none⟩)) rfl (some 112) (by as_aux_lemma => kernel_rfl) (by as_aux_lemma => kernel_rfl) (by as_aux_lemma => kernel_rfl) (by as_aux_lemma => kernel_rfl) (by as_aux_lemma => kernel_rfl) hCalm hHeld (fun w' hS => by rw [hSdef] at hS; obtain ⟨g1, g2, g3, g4, g5, g6, g7, g8, g9⟩ := hS; go_simp) ?_
        simp only [Act.put, List.setIfInBounds_toArray, List.set_cons_zero, List.set_cons_succ]
        refine getV 14 (.float .f64 p1) rfl (some 113) (by as_aux_lemma => kernel_rfl) (by as_aux_lemma => kernel_rfl) (by as_aux_lemma => kernel_rfl) (by as_aux_lemma => kernel_rfl) (by as_aux_lemma => kernel_rfl) hCalm hHeld (fun w' hS => by rw [hSdef] at hS; obtain ⟨g1, g2, g3, g4, g5, g6, g7, g8, g9⟩ := hS; go_simp) ?_
        simp only [Act.put, List.setIfInBounds_toArray, List.set_cons_zero, List.set_cons_succ]
        refine getF 15 [17, 18, 20, 22, 24] .sub 22 22 (.tmp 110) (.tmp 113) o1 p1 rfl rfl (.inr (.inl rfl)) (some 114) (by as_aux_lemma => kernel_rfl) (by as_aux_lemma => kernel_rfl) (by as_aux_lemma => kernel_rfl) (by as_aux_lemma => kernel_rfl) (by as_aux_lemma => kernel_rfl) (by as_aux_lemma => kernel_rfl) (by as_aux_lemma => kernel_rfl) hCalm hHeld (by as_aux_lemma => kernel_rfl) (by as_aux_lemma => kernel_rfl) ?_
        intro rr hrr
        obtain rfl := fix hrr (HALL.out.2.2.2.2.2.2.2.2.1)
        clear hrr
        simp only [Act.put, List.setIfInBounds_toArray, List.set_cons_zero, List.set_cons_succ]
        refine getV 16 (.float .f64 g) rfl (some 115) (by as_aux_lemma => kernel_rfl) (by as_aux_lemma => kernel_rfl) (by as_aux_lemma => kernel_rfl) (by as_aux_lemma => kernel_rfl) (by as_aux_lemma => kernel_rfl) hCalm hHeld (fun w' hS => by rw [hSdef] at hS; obtain ⟨g1, g2, g3, g4, g5, g6, g7, g8, g9⟩ := hS; go_simp) ?_
        simp only [Act.put, List.setIfInBounds_toArray, List.set_cons_zero, List.set_cons_succ]
        refine getF 17 [18, 20, 22, 24] .mul 22 22 (.tmp 114) (.tmp 115) u1 g rfl rfl (.inr (.inr (.inl rfl))) (some 116) (by as_aux_lemma => kernel_rfl) (by as_aux_lemma => kernel_rfl) (by as_aux_lemma => kernel_rfl) (by as_aux_lemma => kernel_rfl) (by as_aux_lemma => kernel_rfl) (by as_aux_lemma => kernel_rfl) (by as_aux_lemma => kernel_rfl) hCalm hHeld (by as_aux_lemma => kernel_rfl) (by as_aux_lemma => kernel_rfl) ?_
        intro rr hrr
        obtain rfl := fix hrr (HALL.out.2.2.2.2.2.2.2.2.2.1)
        clear hrr
        simp only [Act.put, List.setIfInBounds_toArray, List.set_cons_zero, List.set_cons_succ]
        refine getV 18 (.agg #[.float .f64 v0, .float .f64 v1]) rfl (some 117) (by as_aux_lemma => kernel_rfl) (by as_aux_lemma => kernel_rfl) (by as_aux_lemma => kernel_rfl) (by as_aux_lemma => kernel_rfl) (by as_aux_lemma => kernel_rfl) hCalm hHeld (fun w' hS => by rw [hSdef] at hS; obtain ⟨g1, g2, g3, g4, g5, g6, g7, g8, g9⟩ := hS; go_simp) ?_
        simp only [Act.put, List.setIfInBounds_toArray, List.set_cons_zero, List.set_cons_succ]
        refine getV 19 (.agg #[.float .f64 dO0, .float .f64 dO1]) rfl (some 118) (by as_aux_lemma => kernel_rfl) (by as_aux_lemma => kernel_rfl) (by as_aux_lemma => kernel_rfl) (by as_aux_lemma => kernel_rfl) (by as_aux_lemma => kernel_rfl) hCalm hHeld (fun w' hS => by rw [hSdef] at hS; obtain ⟨g1, g2, g3, g4, g5, g6, g7, g8, g9⟩ := hS; go_simp) ?_
        simp only [Act.put, List.setIfInBounds_toArray, List.set_cons_zero, List.set_cons_succ]
        refine getV 21 (.agg #[.float .f64 dB0, .float .f64 dB1]) rfl (some 120) (by as_aux_lemma => kernel_rfl) (by as_aux_lemma => kernel_rfl) (by as_aux_lemma => kernel_rfl) (by as_aux_lemma => kernel_rfl) (by as_aux_lemma => kernel_rfl) hCalm hHeld (fun w' hS => by rw [hSdef] at hS; obtain ⟨g1, g2, g3, g4, g5, g6, g7, g8, g9⟩ := hS; go_simp) ?_
        simp only [Act.put, List.setIfInBounds_toArray, List.set_cons_zero, List.set_cons_succ]
        have hQ1 : ∀ W', Below W.heap.size W W' → ∀ d e, Calls Yba.prog 20 #[.agg #[.float .f64 v0, .float .f64 v1], .agg #[.float .f64 dO0, .float .f64 dO1]] ((W'.drewN e).drewN d) fun e w' => ∃ v, e = .returned v ∧ S w' ∧ v = .agg #[.float .f64 q0, .float .f64 q1] ∧ Below W'.heap.size W' w' ∧ Hid (q0 < 2 ^ 64 ∧ q1 < 2 ^ 64) := fun W' hW' d e => by
          refine (quo_any v0 v1 dO0 dO1 _).mono ?_
          rintro e1 w' ⟨x', y', rfl, hx, hy, hb, hv⟩
          have hv := hv _ (HALL.out.2.2.2.2.2.2.2.2.2.2.1).out
          simp only [Prod.mk.injEq] at hv
          obtain ⟨rfl, rfl⟩ := hv
          have hb' : Below W'.heap.size W' w' := (below_drewN (below_drewN (Below.refl _ _) e) d).trans hb
          exact ⟨_, rfl, hStep _ (hW'.trans (hb'.mono hW'.size)), rfl, hb', hx, hy⟩
        have hQ2 : ∀ W', Below W.heap.size W W' → ∀ d e, Calls Yba.prog 20 #[.agg #[.float .f64 q0, .float .f64 q1], .agg #[.float .f64 dB0, .float .f64 dB1]] ((W'.drewN e).drewN d) fun e w' => ∃ v, e = .returned v ∧ S w' ∧ v = .agg #[.float .f64 z0, .float .f64 z1] ∧ Below W'.heap.size W' w' ∧ Hid (z0 < 2 ^ 64 ∧ z1 < 2 ^ 64) := fun W' hW' d e => by
          refine (quo_any q0 q1 dB0 dB1 _).mono ?_
          rintro e1 w' ⟨x', y', rfl, hx, hy, hb, hv⟩
          have hv := hv _ (HALL.out.2.2.2.2.2.2.2.2.2.2.2.1).out
          simp only [Prod.mk.injEq] at hv
          obtain ⟨rfl, rfl⟩ := hv
          have hb' : Below W'.heap.size W' w' := (below_drewN (below_drewN (Below.refl _ _) e) d).trans hb
          exact ⟨_, rfl, hStep _ (hW'.trans (hb'.mono hW'.size)), rfl, hb', hx, hy⟩
        refine both 20 23 (by as_aux_lemma => kernel_rfl) ?_ ?_
        · refine wayC 20 20 #[.agg #[.float .f64 v0, .float .f64 v1], .agg #[.float .f64 dO0, .float .f64 dO1]] (fun v w' => v = .agg #[.float .f64 q0, .float .f64 q1] ∧ Below (W).heap.size (W) w' ∧ Hid (q0 < 2 ^ 64 ∧ q1 < 2 ^ 64)) rfl (some 119) (by as_aux_lemma => kernel_rfl) (by as_aux_lemma => kernel_rfl) (fun d => by clear hQ1 hQ2; go_simp) (fun d => hQ1 _ (Below.refl _ _) d 1) ?_
          rintro _ w3 hS3 ⟨rfl, hb6, hqq⟩
          simp only [Act.put, List.setIfInBounds_toArray, List.set_cons_zero, List.set_cons_succ]
          have hb6' : Below W.heap.size W w3 := hb6
          refine both 22 23 (by as_aux_lemma => kernel_rfl) ?_ ?_
          · refine wayC 22 20 #[.agg #[.float .f64 q0, .float .f64 q1], .agg #[.float .f64 dB0, .float .f64 dB1]] (fun v w' => v = .agg #[.float .f64 z0, .float .f64 z1] ∧ Below (w3).heap.size (w3) w' ∧ Hid (z0 < 2 ^ 64 ∧ z1 < 2 ^ 64)) rfl (some 121) (by as_aux_lemma => kernel_rfl) (by as_aux_lemma => kernel_rfl) (fun d => by clear hQ1 hQ2; go_simp) (fun d => hQ2 _ hb6' d 0) ?_
            rintro _ w4 hS4 ⟨rfl, hb7, hzz⟩
            simp only [Act.put, List.setIfInBounds_toArray, List.set_cons_zero, List.set_cons_succ]
            have hb8 : Below W.heap.size W w4 := hb6'.trans (hb7.mono hb6'.size)
            refine soleV 23 (.pointer (some ⟨w4.heap.size, 0, none⟩)) (w4.alloc (.cells #[.float .f64 0, .float .f64 0] 25)) rfl (some 20) (by as_aux_lemma => kernel_rfl) (by as_aux_lemma => kernel_rfl) (by as_aux_lemma => kernel_rfl) hCalm (hStep _ (hb8.alloc hb8.size _)) (fun d => by clear hHeld hCalm hSdef hStep hQ1 hQ2 hS3 hS4; go_simp) ?_
            simp only [Act.put, List.setIfInBounds_toArray, List.set_cons_zero, List.set_cons_succ]
            refine soleS 24 (w4.alloc (.cells #[.float .f64 z0, .float .f64 z1] 25)) rfl none (by as_aux_lemma => kernel_rfl) (by as_aux_lemma => kernel_rfl) (by as_aux_lemma => kernel_rfl) hCalm (hStep _ (hb8.alloc hb8.size _)) (fun d => by clear hHeld hCalm hSdef hStep hQ1 hQ2 hS3 hS4; go_simp) ?_
            simp only [Act.put, List.setIfInBounds_toArray, List.set_cons_zero, List.set_cons_succ]
            refine doneD (by as_aux_lemma => kernel_rfl) (fun d => ?_)
            clear hQ1 hQ2 hHeld hCalm hSdef hStep
            go_wp2
            go_meet
            have hbf := below_drewN (hb8.alloc hb8.size (.cells #[.float .f64 z0, .float .f64 z1] 25)) d
            exact ⟨w4.heap.size, rfl, Nat.lt_of_lt_of_le (World.block_lt_of_cell? W _ hP.1) hb8.size, Nat.lt_of_lt_of_le (row_lt hrowW) hb8.size, Pair.drewN (Pair.new _ _ _ _) d, hP.kept hbf, row_kept hrowW hbf, hbW.trans (hbf.mono hbW.size), hzz⟩
          · have hb9 : Below w3.heap.size w3 (w3.alloc (.cells #[.float .f64 0, .float .f64 0] 25)) := (Below.refl _ _).alloc (Nat.le_refl _) _
            have hb10 : Below W.heap.size W (w3.alloc (.cells #[.float .f64 0, .float .f64 0] 25)) := hb6'.trans (hb9.mono hb6'.size)
            refine wayV 23 (.pointer (some ⟨w3.heap.size, 0, none⟩)) (w3.alloc (.cells #[.float .f64 0, .float .f64 0] 25)) rfl (some 20) (by as_aux_lemma => kernel_rfl) (by as_aux_lemma => kernel_rfl) hCalm (hStep _ hb10) (fun d => by clear hHeld hCalm hSdef hStep hQ1 hQ2 hS3; go_simp) ?_
            simp only [Act.put, List.setIfInBounds_toArray, List.set_cons_zero, List.set_cons_succ]
            refine soleC 22 20 #[.agg #[.float .f64 q0, .float .f64 q1], .agg #[.float .f64 dB0, .float .f64 dB1]] (fun v w' => v = .agg #[.float .f64 z0, .float .f64 z1] ∧ Below (w3.alloc (.cells #[.float .f64 0, .float .f64 0] 25)).heap.size (w3.alloc (.cells #[.float .f64 0, .float .f64 0] 25)) w' ∧ Hid (z0 < 2 ^ 64 ∧ z1 < 2 ^ 64)) rfl (some 121) (by as_aux_lemma => kernel_rfl) (by as_aux_lemma => kernel_rfl) (by as_aux_lemma => kernel_rfl) (fun d => by clear hQ1 hQ2; go_simp) (fun d => hQ2 _ hb10 d 0) ?_
            rintro _ w4 hS4 ⟨rfl, hb7, hzz⟩
            simp only [Act.put, List.setIfInBounds_toArray, List.set_cons_zero, List.set_cons_succ]
            have hP3 : Pair w4 w3.heap.size 0 0 := (Pair.new w3 0 0 25).below hb7 (by simp)
            have hb8 : Below W.heap.size W w4 := hb10.trans (hb7.mono hb10.size)
            have hb11 := (hb8.setCell (p := ⟨w3.heap.size, 0, none⟩) hb6'.size (.float .f64 z0)).setCell (p := ⟨w3.heap.size, 1, none⟩) hb6'.size (.float .f64 z1)
            refine soleS 24 ((w4.setCell ⟨w3.heap.size, 0, none⟩ (.float .f64 z0)).setCell ⟨w3.heap.size, 1, none⟩ (.float .f64 z1)) rfl none (by as_aux_lemma => kernel_rfl) (by as_aux_lemma => kernel_rfl) (by as_aux_lemma => kernel_rfl) hCalm (hStep _ hb11) (fun d => by clear hHeld hCalm hSdef hStep hQ1 hQ2 hS3 hS4 hb6 hb6' hb7 hb8 hb9 hb10 hb11; obtain ⟨c0, c1, f0, f1⟩ := hP3; go_simp) ?_
            simp only [Act.put, List.setIfInBounds_toArray, List.set_cons_zero, List.set_cons_succ]
            refine doneD (by as_aux_lemma => kernel_rfl) (fun d => ?_)
            clear hQ1 hQ2 hHeld hCalm hSdef hStep
            go_wp2
            go_meet
            have hbf := below_drewN (hb11) d
            exact ⟨w3.heap.size, rfl, Nat.lt_of_lt_of_le (World.block_lt_of_cell? W _ hP.1) hb6'.size, Nat.lt_of_lt_of_le (row_lt hrowW) hb6'.size, Pair.drewN (hP3.set z0 z1) d, hP.kept hbf, row_kept hrowW hbf, hbW.trans (hbf.mono hbW.size), hzz⟩
        · have hb9 : Below W.heap.size W (W.alloc (.cells #[.float .f64 0, .float .f64 0] 25)) := (Below.refl _ _).alloc (Nat.le_refl _) _
          refine wayV 23 (.pointer (some ⟨W.heap.size, 0, none⟩)) ((W.alloc (.cells #[.float .f64 0, .float .f64 0] 25)).drewN 1) rfl (some 20) (by as_aux_lemma => kernel_rfl) (by as_aux_lemma => kernel_rfl) hCalm (hStep _ (below_drewN hb9 1)) (fun d => by clear hHeld hCalm hSdef hStep hQ1 hQ2; go_simp) ?_
          simp only [Act.put, List.setIfInBounds_toArray, List.set_cons_zero, List.set_cons_succ]
          refine soleC 20 20 #[.agg #[.float .f64 v0, .float .f64 v1], .agg #[.float .f64 dO0, .float .f64 dO1]] (fun v w' => v = .agg #[.float .f64 q0, .float .f64 q1] ∧ Below (W.alloc (.cells #[.float .f64 0, .float .f64 0] 25)).heap.size (W.alloc (.cells #[.float .f64 0, .float .f64 0] 25)) w' ∧ Hid (q0 < 2 ^ 64 ∧ q1 < 2 ^ 64)) rfl (some 119) (by as_aux_lemma => kernel_rfl) (by as_aux_lemma => kernel_rfl) (by as_aux_lemma => kernel_rfl) (fun d => by clear hQ1 hQ2; go_simp) (fun d => hQ1 _ hb9 d 1) ?_
          rintro _ w3 hS3 ⟨rfl, hb6, hqq⟩
          simp only [Act.put, List.setIfInBounds_toArray, List.set_cons_zero, List.set_cons_succ]
          have hb6' : Below W.heap.size W w3 := hb9.trans (hb6.mono hb9.size)
          refine soleC 22 20 #[.agg #[.float .f64 q0, .float .f64 q1], .agg #[.float .f64 dB0, .float .f64 dB1]] (fun v w' => v = .agg #[.float .f64 z0, .float .f64 z1] ∧ Below (w3).heap.size (w3) w' ∧ Hid (z0 < 2 ^ 64 ∧ z1 < 2 ^ 64)) rfl (some 121) (by as_aux_lemma => kernel_rfl) (by as_aux_lemma => kernel_rfl) (by as_aux_lemma => kernel_rfl) (fun d => by clear hQ1 hQ2; go_simp) (fun d => hQ2 _ hb6' d 0) ?_
          rintro _ w4 hS4 ⟨rfl, hb7, hzz⟩
          simp only [Act.put, List.setIfInBounds_toArray, List.set_cons_zero, List.set_cons_succ]
          have hP3 : Pair w4 W.heap.size 0 0 := ((Pair.new W 0 0 25).below hb6 (by simp)).below hb7 (Nat.lt_of_lt_of_le (by simp) hb6.size)
          have hb8 : Below W.heap.size W w4 := hb6'.trans (hb7.mono hb6'.size)
          have hb11 := (hb8.setCell (p := ⟨W.heap.size, 0, none⟩) (Nat.le_refl _) (.float .f64 z0)).setCell (p := ⟨W.heap.size, 1, none⟩) (Nat.le_refl _) (.float .f64 z1)
          refine soleS 24 ((w4.setCell ⟨W.heap.size, 0, none⟩ (.float .f64 z0)).setCell ⟨W.heap.size, 1, none⟩ (.float .f64 z1)) rfl none (by as_aux_lemma => kernel_rfl) (by as_aux_lemma => kernel_rfl) (by as_aux_lemma => kernel_rfl) hCalm (hStep _ hb11) (fun d => by clear hHeld hCalm hSdef hStep hQ1 hQ2 hS3 hS4 hb6 hb6' hb7 hb8 hb9 hb11; obtain ⟨c0, c1, f0, f1⟩ := hP3; go_simp) ?_
          simp only [Act.put, List.setIfInBounds_toArray, List.set_cons_zero, List.set_cons_succ]
          refine doneD (by as_aux_lemma => kernel_rfl) (fun d => ?_)
          clear hQ1 hQ2 hHeld hCalm hSdef hStep
          go_wp2
          go_meet
          have hbf := below_drewN (hb11) d
          exact ⟨W.heap.size, rfl, (World.block_lt_of_cell? W _ hP.1), (row_lt hrowW), Pair.drewN (hP3.set z0 z1) d, hP.kept hbf, row_kept hrowW hbf, hbW.trans (hbf.mono hbW.size), hzz⟩
      case rest =>
        clear hE hG hD0 hD1 hO hP hrowW hbW
        obtain ⟨D, rfl, lBD, lVD, hD, hP, hrow, hbW, hzz⟩ := hcut
        obtain ⟨i26, hi26, hz26, hs26, hy26⟩ := info_of info26
        obtain ⟨i22, hi22, hz22, hs22, hy22⟩ := info_of info22
        have lVx : V1 < wc.heap.size := row_lt hrow
        have lDx : D < wc.heap.size := World.block_lt_of_cell? wc _ hD.1
        have hown0 : wc.ownsRow V1 26 1 (.slice (some ⟨V1, 0, none⟩) 1 1) 1 [.slice (some ⟨BM, 0, none⟩) 2 2] := ⟨rfl, .inr ⟨V1, 1, _, rfl, Nat.le_refl _, hrow, Nat.le_refl _, by unfold maxLen; omega, rfl, rfl⟩⟩
        go_upto_region 16 with fail
        go_cut [14] (fun v wx => ∃ VV cV, v = .slice (some ⟨VV, 0, none⟩) 2 cV ∧ 2 ≤ cV ∧ wx.cell? ⟨VV, 0, none⟩ = some (.slice (some ⟨BM, 0, none⟩) 2 2) ∧ wx.cell? ⟨VV, 1, none⟩ = some (.slice (some ⟨D, 0, none⟩) 2 2) ∧ VV ≠ BM ∧ VV ≠ D ∧ Pair wx BM x y ∧ Pair wx D z0 z1 ∧ Below w.heap.size w wx)
        case first => as_aux_lemma =>
          have HOWN := hidden (hown0.alloc (.cells #[.slice (some ⟨D, 0, none⟩) 2 2] 26))
          have hA := (Below.refl wc.heap.size wc).alloc (Nat.le_refl _) (.cells #[.slice (some ⟨D, 0, none⟩) 2 2] 26)
          have HPB := hidden (hP.kept hA)
          have HPD := hidden (hD.kept hA)
          have HBA := hidden (hbW.trans (hA.mono hbW.size))
          clear hown0 hrow hA hP hD
          go_wp2_with (at_builtin; go_must (refine wpList_append_lies _ (by rfl) _ _ 24 (by rfl) V1 26 i26 (.slice none 0 0) 1 24 Yba.underlying24 hi26 hz26 hs26 hy26 rfl (by decide) _ _ _ (by rfl) HOWN.out ⟨wc.heap.size, 0, none⟩ 1 1 [.slice (some ⟨D, 0, none⟩) 2 2] (by rfl) (by rfl) (new_list wc _ _) (by intro u hu; simp at hu; subst hu; rfl) (by decide) (by unfold maxLen; omega) (by omega) (by simp; omega) (wc.heap.size + 1) (by simp) ?_); intro VV cV w6 hown hgrow hat hlt; have HO := hidden hown; have HG := hidden hgrow; have HAT := hidden hat; clear hown hgrow hat hlt)
          go_meet
          have hV1 : some V1 ≠ none := by simp
          have hat : VV = V1 ∨ VV = wc.heap.size + 1 := by
            rcases HAT.out with h | h
            · simp [Value.ownBlock] at h; exact .inl h.symm
            · exact .inr h
          exact ⟨VV, cV, rfl, own_cap HO.out, HO.out.cellAt 0 (by omega), HO.out.cellAt 1 (by omega), by omega, by omega, HPB.out.grown HG.out (by simp [Value.ownBlock]; omega), HPD.out.grown HG.out (by simp [Value.ownBlock]; omega), HBA.out.grown HG.out HBA.out.size (fun k hk => by simp [Value.ownBlock] at hk; omega)⟩
        case rest =>
          clear hrow hown0 hP hD hbW
          obtain ⟨VV, cV, rfl, lcV, hV0c, hV1c, nVB, nVD, hP, hD, hbW⟩ := hcut
          have lDy : D < wc.heap.size := World.block_lt_of_cell? wc _ hD.1
          have lVy : VV < wc.heap.size := World.block_lt_of_cell? wc _ hV0c
          go_upto_region 17 with fail
          have hA := (Below.refl wc.heap.size wc).alloc (Nat.le_refl _) (.cells #[.float .f64 gO0] 22)
          have HPB := hidden (hP.kept hA)
          have HPD := hidden (hD.kept hA)
          have HV0 := hidden (kept hV0c hA)
          have HV1 := hidden (kept hV1c hA)
          have HBA := hidden (hbW.trans (hA.mono hbW.size))
          have HOWN : Hid ((wc.alloc (.cells #[.float .f64 gO0] 22)).ownsRow wc.heap.size 22 1 (.slice none 0 0) 0 []) := ⟨rfl, .inl ⟨rfl, rfl⟩⟩
          clear hA hP hD hV0c hV1c hbW
          go_upto_region 18 with (at_builtin; go_must (refine wpList_append_lies _ (by rfl) _ _ 26 (by rfl) wc.heap.size 22 i22 (.float .f64 0) 1 8 Yba.underlying26 hi22 hz22 hs22 hy22 rfl (by decide) _ _ _ (by rfl) HOWN.out ⟨wc.heap.size, 0, none⟩ 1 1 [.float .f64 gO0] (by rfl) (by rfl) (new_list wc _ _) (by intro u hu; simp at hu; subst hu; rfl) (by decide) (by unfold maxLen; omega) (by omega) (by simp) (wc.heap.size + 1) (by simp) ?_); intro GG cG w6 hown hgrow hat hlt; have HO := hidden hown; have HG := hidden hgrow; have HAT := hidden hat; clear hown hgrow hat hlt)
          have hat : GG = wc.heap.size + 1 := by
            rcases HAT.out with h | h
            · simp [Value.ownBlock] at h
            · exact h
          have hGGc : w6.cell? ⟨GG, 0, none⟩ = some (.float .f64 gO0) := HO.out.cellAt 0 (by omega)
          have nGB : GG ≠ BM := by omega
          have nGD : GG ≠ D := by omega
          have hV0c := cell_grown HV0.out HG.out (by simp [Value.ownBlock])
          have hV1c := cell_grown HV1.out HG.out (by simp [Value.ownBlock])
          have hP := HPB.out.grown HG.out (by simp [Value.ownBlock])
          have hD := HPD.out.grown HG.out (by simp [Value.ownBlock])
          have hbW := HBA.out.grown HG.out HBA.out.size (fun k hk => by simp [Value.ownBlock] at hk)
          clear HO HG HAT HPB HPD HV0 HV1 HBA HOWN hat
          go_wp2
          rw [rounds_succ]
          go_upto_region 19 with fail
          go_cut [21] (fun v wx => v = .int .i64 ex ∧ -1100 ≤ ex ∧ ex ≤ 1100 ∧ wx.cell? ⟨GG, 0, none⟩ = some (.float .f64 gO0) ∧ wx.cell? ⟨VV, 1, none⟩ = some (.slice (some ⟨D, 0, none⟩) 2 2) ∧ Pair wx BM x1 y1 ∧ Pair wx D z2 z3 ∧ Below w.heap.size w wx)
          case first => as_aux_lemma =>
            have HP := hidden hP
            have HD := hidden hD
            have HV0 := hidden hV0c
            have HV1 := hidden hV1c
            clear hP hD hV0c hV1c
            go_wp2_with (go_at_call 21; refine (scale_two VV BM D x y z0 z1 cV w6 hxy.out.1 hxy.out.2 hzz.out.1 hzz.out.2 HV0.out HV1.out HP.out.1 HP.out.2.1 HP.out.2.2.1 HP.out.2.2.2 HD.out.1 HD.out.2.1 HD.out.2.2.1 HD.out.2.2.2 nVB nVD (Nat.ne_of_lt lBD)).mono ?_; rintro e w7 ⟨ex', r0, r1, r2, r3, d7, rfl, rfl, hex, hv⟩; have hv := hv _ (HALL.out.2.2.2.2.2.2.2.2.2.2.2.2.1).out; simp only [Prod.mk.injEq] at hv; obtain ⟨rfl, rfl, rfl, rfl, rfl⟩ := hv; have HX := hidden hex; clear hex)
            go_meet
            have nBD : BM ≠ D := Nat.ne_of_lt lBD
            have lBMw : w.heap.size ≤ D := by omega
            exact ⟨rfl, HX.out.1, HX.out.2, (far2 nGD).trans ((far2 nGB).trans hGGc), (far2 nVD).trans ((far2 nVB).trans HV1.out), (Pair.far (Pair.set HP.out x1 y1) nBD).drewN d7, (Pair.set (Pair.far HD.out (Ne.symm nBD)) z2 z3).drewN d7, below_drewN ((((hbW.setCell (p := ⟨BM, 0, none⟩) lBM _).setCell (p := ⟨BM, 1, none⟩) lBM _).setCell (p := ⟨D, 0, none⟩) lBMw _).setCell (p := ⟨D, 1, none⟩) lBMw _) d7⟩
          case rest =>
            clear hP hD hbW hV0c hV1c hGGc
            obtain ⟨rfl, hex0, hex1, hGGc, hV1c, hP, hD, hbW⟩ := hcut
            obtain ⟨Mid, hMid⟩ : ∃ M : World → Prop, M = fun wx => wx.cell? ⟨GG, 0, none⟩ = some (.float .f64 gO0) ∧ wx.cell? ⟨VV, 1, none⟩ = some (.slice (some ⟨D, 0, none⟩) 2 2) ∧ Pair wx BM x1 y1 ∧ Pair wx D z2 z3 ∧ Below w.heap.size w wx := ⟨_, rfl⟩
            have hM : Mid wc := by rw [hMid]; exact ⟨hGGc, hV1c, hP, hD, hbW⟩
            have hMk : Hid (∀ w1 w2 : World, Mid w1 → Below w1.heap.size w1 w2 → Mid w2) := fun w1 w2 h hb => by
              rw [hMid] at h ⊢
              exact ⟨kept h.1 hb, kept h.2.1 hb, h.2.2.1.kept hb, h.2.2.2.1.kept hb, h.2.2.2.2.trans (hb.mono h.2.2.2.2.size)⟩
            have HMid := hidden hMid
            clear hGGc hV1c hP hD hbW hMid
            go_upto_region 20 with fail
            go_cut [22, 23] (fun a1 a2 wx => a1 = .float .f64 b ∧ a2 = .float .f64 bt ∧ Mid wx)
            case first => as_aux_lemma =>
              have hMM := hM
              rw [HMid.out] at hMM
              obtain ⟨_, _, hP, _, _⟩ := hMM
              refine wp_region_noPanic ?_
              obtain ⟨S, hSdef⟩ : ∃ S : World → Prop, S = (fun w' : World => w'.cell? ⟨BM, 0, none⟩ = some (.float .f64 x1) ∧ w'.cell? ⟨BM, 1, none⟩ = some (.float .f64 y1)) := ⟨_, rfl⟩
              have hCalm : Calm S := by rw [hSdef]; exact fun _ _ h => h
              refine wp_region_D S (by as_aux_lemma => kernel_rfl) ?_
              have hHeld : S (wc.drewN 1) := by
                rw [hSdef]
                exact ⟨hP.1, hP.2.1⟩
              refine getV 0 (.int .i64 ex) rfl (some 133) (by as_aux_lemma => kernel_rfl) (by as_aux_lemma => kernel_rfl) (by as_aux_lemma => kernel_rfl) (by as_aux_lemma => kernel_rfl) (by as_aux_lemma => kernel_rfl) hCalm hHeld (fun w' hS => by rw [hSdef] at hS; obtain ⟨g1, g2⟩ := hS; go_simp) ?_
              simp only [Act.put, List.setIfInBounds_toArray, List.set_cons_zero, List.set_cons_succ]
              refine getV 1 (.int .i64 (-ex)) rfl (some 134) (by as_aux_lemma => kernel_rfl) (by as_aux_lemma => kernel_rfl) (by as_aux_lemma => kernel_rfl) (by as_aux_lemma => kernel_rfl) (by as_aux_lemma => kernel_rfl) hCalm hHeld (fun w' hS => by clear hS hHeld hCalm hSdef; go_simp; exact wrap_i _ (by omega) (by omega)) ?_
              simp only [Act.put, List.setIfInBounds_toArray, List.set_cons_zero, List.set_cons_succ]
              refine getV 3 (.pointer (some ⟨BM, 0, none⟩)) rfl (some 136) (by as_aux_lemma => kernel_rfl) (by as_aux_lemma => kernel_rfl) (by as_aux_lemma => kernel_rfl) (by as_aux_lemma => kernel_rfl) (by as_aux_lemma => kernel_rfl) hCalm hHeld (fun w' hS => by rw [hSdef] at hS; obtain ⟨g1, g2⟩ := hS; go_simp) ?_
              simp only [Act.put, List.setIfInBounds_toArray, List.set_cons_zero, List.set_cons_succ]
              refine getV 4 (.float .f64 x1) rfl (some 137) (by as_aux_lemma => kernel_rfl) (by as_aux_lemma => kernel_rfl) (by as_aux_lemma => kernel_rfl) (by as_aux_lemma => kernel_rfl) (by as_aux_lemma => kernel_rfl) hCalm hHeld (fun w' hS => by rw [hSdef] at hS; obtain ⟨g1, g2⟩ := hS; go_simp) ?_
              simp only [Act.put, List.setIfInBounds_toArray, List.set_cons_zero, List.set_cons_succ]
              refine getV 5 (.pointer (some ⟨BM, 1, none⟩)) rfl (some 138) (by as_aux_lemma => kernel_rfl) (by as_aux_lemma => kernel_rfl) (by as_aux_lemma => kernel_rfl) (by as_aux_lemma => kernel_rfl) (by as_aux_lemma => kernel_rfl) hCalm hHeld (fun w' hS => by rw [hSdef] at hS; obtain ⟨g1, g2⟩ := hS; go_simp) ?_
              simp only [Act.put, List.setIfInBounds_toArray, List.set_cons_zero, List.set_cons_succ]
              refine getV 6 (.float .f64 y1) rfl (some 139) (by as_aux_lemma => kernel_rfl) (by as_aux_lemma => kernel_rfl) (by as_aux_lemma => kernel_rfl) (by as_aux_lemma => kernel_rfl) (by as_aux_lemma => kernel_rfl) hCalm hHeld (fun w' hS => by rw [hSdef] at hS; obtain ⟨g1, g2⟩ := hS; go_simp) ?_
              simp only [Act.put, List.setIfInBounds_toArray, List.set_cons_zero, List.set_cons_succ]
              have hLd : ∀ W0, S W0 → ∀ d, Calls Yba.prog 22 #[.float .f64 one, .int .i64 (-ex)] (W0.drewN d) fun e w' => ∃ v, e = .returned v ∧ S w' ∧ v = .float .f64 b ∧ ∃ d, w' = W0.drewN d := fun W0 hS0 d => by
                refine (Ldexp_any one (-ex) _ (by decide) (by omega)).mono ?_
                rintro e w' ⟨r, d', rfl, rfl, hr⟩
                obtain rfl := (hr.2 _ (HALL.out.2.2.2.2.2.2.2.2.2.2.2.2.2.1).out).symm
                exact ⟨_, rfl, hCalm _ _ (hCalm _ _ hS0), rfl, _, World.drewN_drewN _ _ _⟩
              have hHy : ∀ W0, S W0 → ∀ d, Calls Yba.prog 23 #[.float .f64 x1, .float .f64 y1] (W0.drewN d) fun e w' => ∃ v, e = .returned v ∧ S w' ∧ v = .float .f64 bt ∧ ∃ d, w' = W0.drewN d := fun W0 hS0 d => by
                refine (hypot_any x1 y1 _).mono ?_
                rintro e w' ⟨r, d', rfl, rfl, hr⟩
                obtain rfl := (hr.2 _ (HALL.out.2.2.2.2.2.2.2.2.2.2.2.2.2.2.1).out).symm
                exact ⟨_, rfl, hCalm _ _ (hCalm _ _ hS0), rfl, _, World.drewN_drewN _ _ _⟩
              refine soleC 2 22 #[.float .f64 one, .int .i64 (-ex)] (fun v w' => v = .float .f64 b ∧ ∃ d, w' = (wc.drewN 1).drewN d) rfl (some 135) (by as_aux_lemma => kernel_rfl) (by as_aux_lemma => kernel_rfl) (by as_aux_lemma => kernel_rfl) (fun d => by clear hLd hHy; go_simp) (hLd _ hHeld) ?_
              rintro _ _ hS1 ⟨rfl, d1, rfl⟩
              simp only [Act.put, List.setIfInBounds_toArray, List.set_cons_zero, List.set_cons_succ]
              refine soleC 7 23 #[.float .f64 x1, .float .f64 y1] (fun v w' => v = .float .f64 bt ∧ ∃ d, w' = ((wc.drewN 1).drewN d1).drewN d) rfl (some 140) (by as_aux_lemma => kernel_rfl) (by as_aux_lemma => kernel_rfl) (by as_aux_lemma => kernel_rfl) (fun d => by clear hLd hHy; go_simp) (hHy _ hS1) ?_
              rintro _ _ hS2 ⟨rfl, d2, rfl⟩
              simp only [Act.put, List.setIfInBounds_toArray, List.set_cons_zero, List.set_cons_succ]
              refine soleV 8 (.float .f64 b) _ rfl (some 22) (by as_aux_lemma => kernel_rfl) (by as_aux_lemma => kernel_rfl) (by as_aux_lemma => kernel_rfl) hCalm hS2 (fun d => by clear hLd hHy; go_simp) ?_
              simp only [Act.put, List.setIfInBounds_toArray, List.set_cons_zero, List.set_cons_succ]
              refine soleV 9 (.float .f64 bt) _ rfl (some 23) (by as_aux_lemma => kernel_rfl) (by as_aux_lemma => kernel_rfl) (by as_aux_lemma => kernel_rfl) hCalm hS2 (fun d => by clear hLd hHy; go_simp) ?_
              simp only [Act.put, List.setIfInBounds_toArray, List.set_cons_zero, List.set_cons_succ]
              refine doneD (by as_aux_lemma => kernel_rfl) (fun d => ?_)
              clear hLd hHy hHeld hCalm hSdef hS1 hS2
              go_wp2
              go_meet
              exact ⟨rfl, rfl, hMk.out _ _ hM (below_drewN (below_drewN (below_drewN (below_drewN (Below.refl _ _) _) _) _) _)⟩
            case rest =>
              clear hM
              obtain ⟨rfl, rfl, hM⟩ := hcut
              go_upto_region 21 with fail
              go_cut [24, 25] (fun a1 a2 wx => ∃ E, a1 = .pointer (some ⟨E, 0, none⟩) ∧ a2 = .float .f64 rt ∧ Pair wx E e0 e1 ∧ Mid wx)
              case first => as_aux_lemma =>
                have hMM := hM
                rw [HMid.out] at hMM
                obtain ⟨_, _, hP, _, _⟩ := hMM
                refine wp_region_noPanic ?_
                obtain ⟨S, hSdef⟩ : ∃ S : World → Prop, S = (fun w' : World => w'.cell? ⟨BM, 0, none⟩ = some (.float .f64 x1) ∧ w'.cell? ⟨BM, 1, none⟩ = some (.float .f64 y1)) := ⟨_, rfl⟩
                have hCalm : Calm S := by rw [hSdef]; exact fun _ _ h => h
                refine wp_region_D S (by as_aux_lemma => kernel_rfl) ?_
                have hStep : ∀ w', Below wc.heap.size wc w' → S w' := fun w' hb => by
                  rw [hSdef]
                  exact ⟨kept hP.1 hb, kept hP.2.1 hb⟩
                have hHeld : S (wc.drewN 1) := by
                  rw [hSdef]
                  exact ⟨hP.1, hP.2.1⟩
                refine getV 9 (.float .f64 gB0) rfl (some 150) (by as_aux_lemma => kernel_rfl) (by as_aux_lemma => kernel_rfl) (by as_aux_lemma => kernel_rfl) (by as_aux_lemma => kernel_rfl) (by as_aux_lemma => kernel_rfl) hCalm hHeld (fun w' hS => by rw [hSdef] at hS; obtain ⟨g1, g2⟩ := hS; go_simp) ?_
                simp only [Act.put, List.setIfInBounds_toArray, List.set_cons_zero, List.set_cons_succ]
                refine getC 10 [] 24 #[.float .f64 gB0] (fun v => v = .float .f64 rt) rfl (some 151) (by as_aux_lemma => kernel_rfl) (by as_aux_lemma => kernel_rfl) (by as_aux_lemma => kernel_rfl) (by as_aux_lemma => kernel_rfl) (by as_aux_lemma => kernel_rfl) (by as_aux_lemma => kernel_rfl) (by as_aux_lemma => kernel_rfl) hCalm hHeld ⟨_, rfl⟩ (fun w' hS => by go_simp) (fun w' hS => ?_) ?_
                · refine (sqrt_any gB0 w').mono ?_
                  rintro e w1 ⟨rr, d, rfl, hrt, rfl⟩
                  obtain rfl := (hrt.2 _ (HALL.out.2.2.2.2.2.2.2.2.2.2.2.2.2.2.2.2.2.1).out).symm
                  exact ⟨_, d, rfl, rfl, rfl⟩
                rintro _ rfl
                simp only [Act.put, List.setIfInBounds_toArray, List.set_cons_zero, List.set_cons_succ]
                refine getV 0 (.pointer (some ⟨BM, 0, none⟩)) rfl (some 141) (by as_aux_lemma => kernel_rfl) (by as_aux_lemma => kernel_rfl) (by as_aux_lemma => kernel_rfl) (by as_aux_lemma => kernel_rfl) (by as_aux_lemma => kernel_rfl) hCalm hHeld (fun w' hS => by rw [hSdef] at hS; obtain ⟨g1, g2⟩ := hS; go_simp) ?_
                simp only [Act.put, List.setIfInBounds_toArray, List.set_cons_zero, List.set_cons_succ]
                refine getV 1 (.float .f64 x1) rfl (some 142) (by as_aux_lemma => kernel_rfl) (by as_aux_lemma => kernel_rfl) (by as_aux_lemma => kernel_rfl) (by as_aux_lemma => kernel_rfl) (by as_aux_lemma => kernel_rfl) hCalm hHeld (fun w' hS => by rw [hSdef] at hS; obtain ⟨g1, g2⟩ := hS; go_simp) ?_
                simp only [Act.put, List.setIfInBounds_toArray, List.set_cons_zero, List.set_cons_succ]
                refine getV 2 (.float .f64 bt) rfl (some 143) (by as_aux_lemma => kernel_rfl) (by as_aux_lemma => kernel_rfl) (by as_aux_lemma => kernel_rfl) (by as_aux_lemma => kernel_rfl) (by as_aux_lemma => kernel_rfl) hCalm hHeld (fun w' hS => by rw [hSdef] at hS; obtain ⟨g1, g2⟩ := hS; go_simp) ?_
                simp only [Act.put, List.setIfInBounds_toArray, List.set_cons_zero, List.set_cons_succ]
                refine getF 3 [] .quo 22 22 (.tmp 142) (.tmp 143) x1 bt rfl rfl (.inr (.inr (.inr rfl))) (some 144) (by as_aux_lemma => kernel_rfl) (by as_aux_lemma => kernel_rfl) (by as_aux_lemma => kernel_rfl) (by as_aux_lemma => kernel_rfl) (by as_aux_lemma => kernel_rfl) (by as_aux_lemma => kernel_rfl) (by as_aux_lemma => kernel_rfl) hCalm hHeld (by as_aux_lemma => kernel_rfl) (by as_aux_lemma => kernel_rfl) ?_
                intro rr hrr
                obtain rfl := fix hrr (HALL.out.2.2.2.2.2.2.2.2.2.2.2.2.2.2.2.1)
                clear hrr
                simp only [Act.put, List.setIfInBounds_toArray, List.set_cons_zero, List.set_cons_succ]
                refine getV 4 (.pointer (some ⟨BM, 1, none⟩)) rfl (some 145) (by as_aux_lemma => kernel_rfl) (by as_aux_lemma => kernel_rfl) (by as_aux_lemma => kernel_rfl) (by as_aux_lemma => kernel_rfl) (by as_aux_lemma => kernel_rfl) hCalm hHeld (fun w' hS => by rw [hSdef] at hS; obtain ⟨g1, g2⟩ := hS; go_simp) ?_
                simp only [Act.put, List.setIfInBounds_toArray, List.set_cons_zero, List.set_cons_succ]
                refine getV 5 (.float .f64 y1) rfl (some 146) (by as_aux_lemma => kernel_rfl) (by as_aux_lemma => kernel_rfl) (by as_aux_lemma => kernel_rfl) (by as_aux_lemma => kernel_rfl) (by as_aux_lemma => kernel_rfl) hCalm hHeld (fun w' hS => by rw [hSdef] at hS; obtain ⟨g1, g2⟩ := hS; go_simp) ?_
                simp only [Act.put, List.setIfInBounds_toArray, List.set_cons_zero, List.set_cons_succ]
                refine getV 6 (.float .f64 bt) rfl (some 147) (by as_aux_lemma => kernel_rfl) (by as_aux_lemma => kernel_rfl) (by as_aux_lemma => kernel_rfl) (by as_aux_lemma => kernel_rfl) (by as_aux_lemma => kernel_rfl) hCalm hHeld (fun w' hS => by rw [hSdef] at hS; obtain ⟨g1, g2⟩ := hS; go_simp) ?_
                simp only [Act.put, List.setIfInBounds_toArray, List.set_cons_zero, List.set_cons_succ]
                refine getF 7 [] .quo 22 22 (.tmp 146) (.tmp 147) y1 bt rfl rfl (.inr (.inr (.inr rfl))) (some 148) (by as_aux_lemma => kernel_rfl) (by as_aux_lemma => kernel_rfl) (by as_aux_lemma => kernel_rfl) (by as_aux_lemma => kernel_rfl) (by as_aux_lemma => kernel_rfl) (by as_aux_lemma => kernel_rfl) (by as_aux_lemma => kernel_rfl) hCalm hHeld (by as_aux_lemma => kernel_rfl) (by as_aux_lemma => kernel_rfl) ?_
                intro rr hrr
                obtain rfl := fix hrr (HALL.out.2.2.2.2.2.2.2.2.2.2.2.2.2.2.2.2.1)
                clear hrr
                simp only [Act.put, List.setIfInBounds_toArray, List.set_cons_zero, List.set_cons_succ]
                refine getV 8 (.agg #[.float .f64 e0, .float .f64 e1]) rfl (some 149) (by as_aux_lemma => kernel_rfl) (by as_aux_lemma => kernel_rfl) (by as_aux_lemma => kernel_rfl) (by as_aux_lemma => kernel_rfl) (by as_aux_lemma => kernel_rfl) hCalm hHeld (fun w' hS => by rw [hSdef] at hS; obtain ⟨g1, g2⟩ := hS; go_simp) ?_
                simp only [Act.put, List.setIfInBounds_toArray, List.set_cons_zero, List.set_cons_succ]
                refine soleV 11 (.pointer (some ⟨wc.heap.size, 0, none⟩)) ((wc.alloc (.cells #[.float .f64 0, .float .f64 0] 25)).drewN 1) rfl (some 24) (by as_aux_lemma => kernel_rfl) (by as_aux_lemma => kernel_rfl) (by as_aux_lemma => kernel_rfl) hCalm (hStep _ (below_drewN ((Below.refl _ _).alloc (Nat.le_refl _) _) 1)) (fun d => by clear hHeld hCalm hSdef hStep; go_simp) ?_
                simp only [Act.put, List.setIfInBounds_toArray, List.set_cons_zero, List.set_cons_succ]
                refine soleS 12 ((wc.alloc (.cells #[.float .f64 e0, .float .f64 e1] 25)).drewN 1) rfl none (by as_aux_lemma => kernel_rfl) (by as_aux_lemma => kernel_rfl) (by as_aux_lemma => kernel_rfl) hCalm (hStep _ (below_drewN ((Below.refl _ _).alloc (Nat.le_refl _) _) 1)) (fun d => by clear hHeld hCalm hSdef hStep; go_simp) ?_
                simp only [Act.put, List.setIfInBounds_toArray, List.set_cons_zero, List.set_cons_succ]
                refine soleV 13 (.float .f64 rt) ((wc.alloc (.cells #[.float .f64 e0, .float .f64 e1] 25)).drewN 1) rfl (some 25) (by as_aux_lemma => kernel_rfl) (by as_aux_lemma => kernel_rfl) (by as_aux_lemma => kernel_rfl) hCalm (hStep _ (below_drewN ((Below.refl _ _).alloc (Nat.le_refl _) _) 1)) (fun d => by clear hHeld hCalm hSdef hStep; go_simp) ?_
                simp only [Act.put, List.setIfInBounds_toArray, List.set_cons_zero, List.set_cons_succ]
                refine doneD (by as_aux_lemma => kernel_rfl) (fun d => ?_)
                clear hHeld hCalm hSdef hStep
                go_wp2
                go_meet
                exact ⟨wc.heap.size, rfl, rfl, ((Pair.new wc e0 e1 25).drewN 1).drewN d, hMk.out _ _ hM (below_drewN (below_drewN ((Below.refl _ _).alloc (Nat.le_refl _) _) 1) d)⟩
              case rest =>
                clear hM
                obtain ⟨E, rfl, rfl, hPE, hM⟩ := hcut
                go_upto_region 24 with fail
                obtain ⟨W, hWd⟩ : ∃ W, W = (((wc.alloc (.cells #[.float .f64 4607182418800017408] 22)).alloc (.cells #[.float .f64 13830554455654793216] 22)).alloc (.cells #[.slice (some ⟨wc.heap.size, 0, none⟩) 1 1, .float .f64 b, .float .f64 b, .slice (some ⟨wc.heap.size + 1, 0, none⟩) 1 1, .float .f64 b, .float .f64 b] 105)) := ⟨_, rfl⟩
                have hb3 : Below wc.heap.size wc W := by rw [hWd]; exact below_3 _ _ _ _
                have hA1 : W.cell? ⟨wc.heap.size, 0, none⟩ = some (.float .f64 one) := by rw [hWd]; clear hM hPE hb3 hWd; go_simp
                have hA2 : W.cell? ⟨wc.heap.size + 1, 0, none⟩ = some (.float .f64 mone) := by rw [hWd]; clear hM hPE hb3 hWd; go_simp
                have hSr : W.heap[wc.heap.size + 1 + 1]? = some (.cells #[.slice (some ⟨wc.heap.size, 0, none⟩) 1 1, .float .f64 b, .float .f64 b, .slice (some ⟨wc.heap.size + 1, 0, none⟩) 1 1, .float .f64 b, .float .f64 b] 105) := by
                  rw [hWd]
                  have h := heap_alloc_new ((wc.alloc (.cells #[.float .f64 4607182418800017408] 22)).alloc (.cells #[.float .f64 13830554455654793216] 22)) (.cells #[.slice (some ⟨wc.heap.size, 0, none⟩) 1 1, .float .f64 b, .float .f64 b, .slice (some ⟨wc.heap.size + 1, 0, none⟩) 1 1, .float .f64 b, .float .f64 b] 105)
                  rw [World.size_alloc, World.size_alloc] at h
                  exact h
                have hM1 := hMk.out _ _ hM hb3
                have hPE1 := hPE.kept hb3
                obtain ⟨A1, hA1d⟩ : ∃ A1, A1 = wc.heap.size := ⟨_, rfl⟩
                have lwA : w.heap.size ≤ A1 := by rw [hA1d]; rw [HMid.out] at hM; exact hM.2.2.2.2.size
                rw [← hA1d] at hA1 hA2 hSr
                rw [← hWd, ← hA1d]
                clear hM hPE hb3 hWd hA1d
                obtain ⟨Mid2, hMid2⟩ : ∃ M : World → Prop, M = fun wx => Mid wx ∧ Pair wx E e0 e1 ∧ wx.cell? ⟨A1, 0, none⟩ = some (.float .f64 one) ∧ wx.cell? ⟨A1 + 1, 0, none⟩ = some (.float .f64 mone) ∧ wx.heap[A1 + 1 + 1]? = some (.cells #[.slice (some ⟨A1, 0, none⟩) 1 1, .float .f64 b, .float .f64 b, .slice (some ⟨A1 + 1, 0, none⟩) 1 1, .float .f64 b, .float .f64 b] 105) := ⟨_, rfl⟩
                have hM : Mid2 W := by rw [hMid2]; exact ⟨hM1, hPE1, hA1, hA2, hSr⟩
                have hMk2 : Hid (∀ w1 w2 : World, Mid2 w1 → Below w1.heap.size w1 w2 → Mid2 w2) := fun w1 w2 h hb => by
                  rw [hMid2] at h ⊢
                  exact ⟨hMk.out _ _ h.1 hb, h.2.1.kept hb, kept h.2.2.1 hb, kept h.2.2.2.1 hb, row_kept h.2.2.2.2 hb⟩
                have HMid2 := hidden hMid2
                clear hA1 hA2 hSr hPE1 hMid2
                have kV : W.cell? ⟨VV, 1, none⟩ = some (.slice (some ⟨D, 0, none⟩) 2 2) := by rw [HMid.out] at hM1; exact hM1.2.1
                clear hM1
                refine wp_loop_rounds 2 ?_
                rw [rounds_succ]
                go_upto_region 26 with fail
                clear kV
                go_cut [29] (fun v wx => v = .float .f64 dd ∧ Mid2 wx)
                case first => as_aux_lemma =>
                  have hMM := hM
                  rw [HMid2.out] at hMM
                  obtain ⟨hMd, hPE, _, _, _⟩ := hMM
                  rw [HMid.out] at hMd
                  obtain ⟨hGGc, _, hP, hD, _⟩ := hMd
                  refine wp_region_noPanic ?_
                  obtain ⟨S, hSdef⟩ : ∃ S : World → Prop, S = (fun w' : World => w'.cell? ⟨D, 0, none⟩ = some (.float .f64 z2) ∧ w'.cell? ⟨D, 1, none⟩ = some (.float .f64 z3)) := ⟨_, rfl⟩
                  have hCalm : Calm S := by rw [hSdef]; exact fun _ _ h => h
                  refine wp_region_D S (by as_aux_lemma => kernel_rfl) ?_
                  have hHeld : S (W.drewN 1) := by
                    rw [hSdef]
                    exact ⟨hD.1, hD.2.1⟩
                  refine getV 0 (.slice (some ⟨D, 0, none⟩) 2 2) rfl (some 169) (by as_aux_lemma => kernel_rfl) (by as_aux_lemma => kernel_rfl) (by as_aux_lemma => kernel_rfl) (by as_aux_lemma => kernel_rfl) (by as_aux_lemma => kernel_rfl) hCalm hHeld (fun w' hS => by rw [hSdef] at hS; obtain ⟨g1, g2⟩ := hS; go_simp) ?_
                  simp only [Act.put, List.setIfInBounds_toArray, List.set_cons_zero, List.set_cons_succ]
                  refine getV 1 (.pointer (some ⟨D, 0, none⟩)) rfl (some 170) (by as_aux_lemma => kernel_rfl) (by as_aux_lemma => kernel_rfl) (by as_aux_lemma => kernel_rfl) (by as_aux_lemma => kernel_rfl) (by as_aux_lemma => kernel_rfl) hCalm hHeld (fun w' hS => by rw [hSdef] at hS; obtain ⟨g1, g2⟩ := hS; go_simp) ?_
                  simp only [Act.put, List.setIfInBounds_toArray, List.set_cons_zero, List.set_cons_succ]
                  refine getV 2 (.float .f64 z2) rfl (some 171) (by as_aux_lemma => kernel_rfl) (by as_aux_lemma => kernel_rfl) (by as_aux_lemma => kernel_rfl) (by as_aux_lemma => kernel_rfl) (by as_aux_lemma => kernel_rfl) hCalm hHeld (fun w' hS => by rw [hSdef] at hS; obtain ⟨g1, g2⟩ := hS; go_simp) ?_
                  simp only [Act.put, List.setIfInBounds_toArray, List.set_cons_zero, List.set_cons_succ]
                  refine getV 3 (.slice (some ⟨D, 0, none⟩) 2 2) rfl (some 172) (by as_aux_lemma => kernel_rfl) (by as_aux_lemma => kernel_rfl) (by as_aux_lemma => kernel_rfl) (by as_aux_lemma => kernel_rfl) (by as_aux_lemma => kernel_rfl) hCalm hHeld (fun w' hS => by rw [hSdef] at hS; obtain ⟨g1, g2⟩ := hS; go_simp) ?_
                  simp only [Act.put, List.setIfInBounds_toArray, List.set_cons_zero, List.set_cons_succ]
                  refine getV 4 (.pointer (some ⟨D, 0, none⟩)) rfl (some 173) (by as_aux_lemma => kernel_rfl) (by as_aux_lemma => kernel_rfl) (by as_aux_lemma => kernel_rfl) (by as_aux_lemma => kernel_rfl) (by as_aux_lemma => kernel_rfl) hCalm hHeld (fun w' hS => by rw [hSdef] at hS; obtain ⟨g1, g2⟩ := hS; go_simp) ?_
                  simp only [Act.put, List.setIfInBounds_toArray, List.set_cons_zero, List.set_cons_succ]
                  refine getV 5 (.float .f64 z2) rfl (some 174) (by as_aux_lemma => kernel_rfl) (by as_aux_lemma => kernel_rfl) (by as_aux_lemma => kernel_rfl) (by as_aux_lemma => kernel_rfl) (by as_aux_lemma => kernel_rfl) hCalm hHeld (fun w' hS => by rw [hSdef] at hS; obtain ⟨g1, g2⟩ := hS; go_simp) ?_
                  simp only [Act.put, List.setIfInBounds_toArray, List.set_cons_zero, List.set_cons_succ]
                  refine getF 6 [] .mul 22 22 (.tmp 171) (.tmp 174) z2 z2 rfl rfl (.inr (.inr (.inl rfl))) (some 175) (by as_aux_lemma => kernel_rfl) (by as_aux_lemma => kernel_rfl) (by as_aux_lemma => kernel_rfl) (by as_aux_lemma => kernel_rfl) (by as_aux_lemma => kernel_rfl) (by as_aux_lemma => kernel_rfl) (by as_aux_lemma => kernel_rfl) hCalm hHeld (by as_aux_lemma => kernel_rfl) (by as_aux_lemma => kernel_rfl) ?_
                  intro rr hrr
                  obtain rfl := fix hrr (HALL.out.2.2.2.2.2.2.2.2.2.2.2.2.2.2.2.2.2.2.1)
                  clear hrr
                  simp only [Act.put, List.setIfInBounds_toArray, List.set_cons_zero, List.set_cons_succ]
                  refine getV 7 (.slice (some ⟨D, 0, none⟩) 2 2) rfl (some 176) (by as_aux_lemma => kernel_rfl) (by as_aux_lemma => kernel_rfl) (by as_aux_lemma => kernel_rfl) (by as_aux_lemma => kernel_rfl) (by as_aux_lemma => kernel_rfl) hCalm hHeld (fun w' hS => by rw [hSdef] at hS; obtain ⟨g1, g2⟩ := hS; go_simp) ?_
                  simp only [Act.put, List.setIfInBounds_toArray, List.set_cons_zero, List.set_cons_succ]
                  refine getV 8 (.pointer (some ⟨D, 1, none⟩)) rfl (some 177) (by as_aux_lemma => kernel_rfl) (by as_aux_lemma => kernel_rfl) (by as_aux_lemma => kernel_rfl) (by as_aux_lemma => kernel_rfl) (by as_aux_lemma => kernel_rfl) hCalm hHeld (fun w' hS => by rw [hSdef] at hS; obtain ⟨g1, g2⟩ := hS; go_simp) ?_
                  simp only [Act.put, List.setIfInBounds_toArray, List.set_cons_zero, List.set_cons_succ]
                  refine getV 9 (.float .f64 z3) rfl (some 178) (by as_aux_lemma => kernel_rfl) (by as_aux_lemma => kernel_rfl) (by as_aux_lemma => kernel_rfl) (by as_aux_lemma => kernel_rfl) (by as_aux_lemma => kernel_rfl) hCalm hHeld (fun w' hS => by rw [hSdef] at hS; obtain ⟨g1, g2⟩ := hS; go_simp) ?_
                  simp only [Act.put, List.setIfInBounds_toArray, List.set_cons_zero, List.set_cons_succ]
                  refine getV 10 (.slice (some ⟨D, 0, none⟩) 2 2) rfl (some 179) (by as_aux_lemma => kernel_rfl) (by as_aux_lemma => kernel_rfl) (by as_aux_lemma => kernel_rfl) (by as_aux_lemma => kernel_rfl) (by as_aux_lemma => kernel_rfl) hCalm hHeld (fun w' hS => by rw [hSdef] at hS; obtain ⟨g1, g2⟩ := hS; go_simp) ?_
                  simp only [Act.put, List.setIfInBounds_toArray, List.set_cons_zero, List.set_cons_succ]
                  refine getV 11 (.pointer (some ⟨D, 1, none⟩)) rfl (some 180) (by as_aux_lemma => kernel_rfl) (by as_aux_lemma => kernel_rfl) (by as_aux_lemma => kernel_rfl) (by as_aux_lemma => kernel_rfl) (by as_aux_lemma => kernel_rfl) hCalm hHeld (fun w' hS => by rw [hSdef] at hS; obtain ⟨g1, g2⟩ := hS; go_simp) ?_
                  simp only [Act.put, List.setIfInBounds_toArray, List.set_cons_zero, List.set_cons_succ]
                  refine getV 12 (.float .f64 z3) rfl (some 181) (by as_aux_lemma => kernel_rfl) (by as_aux_lemma => kernel_rfl) (by as_aux_lemma => kernel_rfl) (by as_aux_lemma => kernel_rfl) (by as_aux_lemma => kernel_rfl) hCalm hHeld (fun w' hS => by rw [hSdef] at hS; obtain ⟨g1, g2⟩ := hS; go_simp) ?_
                  simp only [Act.put, List.setIfInBounds_toArray, List.set_cons_zero, List.set_cons_succ]
                  refine getF 13 [] .mul 22 22 (.tmp 178) (.tmp 181) z3 z3 rfl rfl (.inr (.inr (.inl rfl))) (some 182) (by as_aux_lemma => kernel_rfl) (by as_aux_lemma => kernel_rfl) (by as_aux_lemma => kernel_rfl) (by as_aux_lemma => kernel_rfl) (by as_aux_lemma => kernel_rfl) (by as_aux_lemma => kernel_rfl) (by as_aux_lemma => kernel_rfl) hCalm hHeld (by as_aux_lemma => kernel_rfl) (by as_aux_lemma => kernel_rfl) ?_
                  intro rr hrr
                  obtain rfl := fix hrr (HALL.out.2.2.2.2.2.2.2.2.2.2.2.2.2.2.2.2.2.2.2.1)
                  clear hrr
                  simp only [Act.put, List.setIfInBounds_toArray, List.set_cons_zero, List.set_cons_succ]
                  refine getF 14 [] .add 22 22 (.tmp 175) (.tmp 182) m1 m2 rfl rfl (.inl rfl) (some 183) (by as_aux_lemma => kernel_rfl) (by as_aux_lemma => kernel_rfl) (by as_aux_lemma => kernel_rfl) (by as_aux_lemma => kernel_rfl) (by as_aux_lemma => kernel_rfl) (by as_aux_lemma => kernel_rfl) (by as_aux_lemma => kernel_rfl) hCalm hHeld (by as_aux_lemma => kernel_rfl) (by as_aux_lemma => kernel_rfl) ?_
                  intro rr hrr
                  obtain rfl := fix hrr (HALL.out.2.2.2.2.2.2.2.2.2.2.2.2.2.2.2.2.2.2.2.2.1)
                  clear hrr
                  simp only [Act.put, List.setIfInBounds_toArray, List.set_cons_zero, List.set_cons_succ]
                  refine getV 15 (.float .f64 dd) rfl (some 29) (by as_aux_lemma => kernel_rfl) (by as_aux_lemma => kernel_rfl) (by as_aux_lemma => kernel_rfl) (by as_aux_lemma => kernel_rfl) (by as_aux_lemma => kernel_rfl) hCalm hHeld (fun w' hS => by rw [hSdef] at hS; obtain ⟨g1, g2⟩ := hS; go_simp) ?_
                  simp only [Act.put, List.setIfInBounds_toArray, List.set_cons_zero, List.set_cons_succ]
                  refine doneD (by as_aux_lemma => kernel_rfl) (fun d => ?_)
                  clear hHeld hCalm hSdef
                  go_wp2
                  go_meet
                  exact ⟨rfl, hMk2.out _ _ hM (below_drewN (below_drewN (Below.refl _ _) _) _)⟩
                case rest =>
                  clear hM
                  obtain ⟨rfl, hM⟩ := hcut
                  go_upto_region 27 with fail
                  go_cut [30] (fun v wx => v = .float .f64 co ∧ Mid2 wx)
                  case first => as_aux_lemma =>
                    have hMM := hM
                    rw [HMid2.out] at hMM
                    obtain ⟨hMd, hPE, _, _, _⟩ := hMM
                    rw [HMid.out] at hMd
                    obtain ⟨hGGc, _, hP, hD, _⟩ := hMd
                    refine wp_region_noPanic ?_
                    obtain ⟨S, hSdef⟩ : ∃ S : World → Prop, S = (fun w' : World => w'.cell? ⟨D, 0, none⟩ = some (.float .f64 z2) ∧ w'.cell? ⟨D, 1, none⟩ = some (.float .f64 z3) ∧ w'.cell? ⟨E, 0, none⟩ = some (.float .f64 e0) ∧ w'.cell? ⟨E, 1, none⟩ = some (.float .f64 e1)) := ⟨_, rfl⟩
                    have hCalm : Calm S := by rw [hSdef]; exact fun _ _ h => h
                    refine wp_region_D S (by as_aux_lemma => kernel_rfl) ?_
                    have hHeld : S (wc.drewN 1) := by
                      rw [hSdef]
                      exact ⟨hD.1, hD.2.1, hPE.1, hPE.2.1⟩
                    refine getV 0 (.float .f64 rt) rfl (some 184) (by as_aux_lemma => kernel_rfl) (by as_aux_lemma => kernel_rfl) (by as_aux_lemma => kernel_rfl) (by as_aux_lemma => kernel_rfl) (by as_aux_lemma => kernel_rfl) hCalm hHeld (fun w' hS => by rw [hSdef] at hS; obtain ⟨g1, g2, g3, g4⟩ := hS; go_simp) ?_
                    simp only [Act.put, List.setIfInBounds_toArray, List.set_cons_zero, List.set_cons_succ]
                    refine getV 1 (.pointer (some ⟨E, 0, none⟩)) rfl (some 185) (by as_aux_lemma => kernel_rfl) (by as_aux_lemma => kernel_rfl) (by as_aux_lemma => kernel_rfl) (by as_aux_lemma => kernel_rfl) (by as_aux_lemma => kernel_rfl) hCalm hHeld (fun w' hS => by rw [hSdef] at hS; obtain ⟨g1, g2, g3, g4⟩ := hS; go_simp) ?_
                    simp only [Act.put, List.setIfInBounds_toArray, List.set_cons_zero, List.set_cons_succ]
                    refine getV 2 (.float .f64 e0) rfl (some 186) (by as_aux_lemma => kernel_rfl) (by as_aux_lemma => kernel_rfl) (by as_aux_lemma => kernel_rfl) (by as_aux_lemma => kernel_rfl) (by as_aux_lemma => kernel_rfl) hCalm hHeld (fun w' hS => by rw [hSdef] at hS; obtain ⟨g1, g2, g3, g4⟩ := hS; go_simp) ?_
                    simp only [Act.put, List.setIfInBounds_toArray, List.set_cons_zero, List.set_cons_succ]
                    refine getV 3 (.slice (some ⟨D, 0, none⟩) 2 2) rfl (some 187) (by as_aux_lemma => kernel_rfl) (by as_aux_lemma => kernel_rfl) (by as_aux_lemma => kernel_rfl) (by as_aux_lemma => kernel_rfl) (by as_aux_lemma => kernel_rfl) hCalm hHeld (fun w' hS => by rw [hSdef] at hS; obtain ⟨g1, g2, g3, g4⟩ := hS; go_simp) ?_
                    simp only [Act.put, List.setIfInBounds_toArray, List.set_cons_zero, List.set_cons_succ]
                    refine getV 4 (.pointer (some ⟨D, 1, none⟩)) rfl (some 188) (by as_aux_lemma => kernel_rfl) (by as_aux_lemma => kernel_rfl) (by as_aux_lemma => kernel_rfl) (by as_aux_lemma => kernel_rfl) (by as_aux_lemma => kernel_rfl) hCalm hHeld (fun w' hS => by rw [hSdef] at hS; obtain ⟨g1, g2, g3, g4⟩ := hS; go_simp) ?_
                    simp only [Act.put, List.setIfInBounds_toArray, List.set_cons_zero, List.set_cons_succ]
                    refine getV 5 (.float .f64 z3) rfl (some 189) (by as_aux_lemma => kernel_rfl) (by as_aux_lemma => kernel_rfl) (by as_aux_lemma => kernel_rfl) (by as_aux_lemma => kernel_rfl) (by as_aux_lemma => kernel_rfl) hCalm hHeld (fun w' hS => by rw [hSdef] at hS; obtain ⟨g1, g2, g3, g4⟩ := hS; go_simp) ?_
                    simp only [Act.put, List.setIfInBounds_toArray, List.set_cons_zero, List.set_cons_succ]
                    refine getF 6 [] .mul 22 22 (.tmp 186) (.tmp 189) e0 z3 rfl rfl (.inr (.inr (.inl rfl))) (some 190) (by as_aux_lemma => kernel_rfl) (by as_aux_lemma => kernel_rfl) (by as_aux_lemma => kernel_rfl) (by as_aux_lemma => kernel_rfl) (by as_aux_lemma => kernel_rfl) (by as_aux_lemma => kernel_rfl) (by as_aux_lemma => kernel_rfl) hCalm hHeld (by as_aux_lemma => kernel_rfl) (by as_aux_lemma => kernel_rfl) ?_
                    intro rr hrr
                    obtain rfl := fix hrr (HALL.out.2.2.2.2.2.2.2.2.2.2.2.2.2.2.2.2.2.2.2.2.2.1)
                    clear hrr
                    simp only [Act.put, List.setIfInBounds_toArray, List.set_cons_zero, List.set_cons_succ]
                    refine getV 7 (.pointer (some ⟨E, 1, none⟩)) rfl (some 191) (by as_aux_lemma => kernel_rfl) (by as_aux_lemma => kernel_rfl) (by as_aux_lemma => kernel_rfl) (by as_aux_lemma => kernel_rfl) (by as_aux_lemma => kernel_rfl) hCalm hHeld (fun w' hS => by rw [hSdef] at hS; obtain ⟨g1, g2, g3, g4⟩ := hS; go_simp) ?_
                    simp only [Act.put, List.setIfInBounds_toArray, List.set_cons_zero, List.set_cons_succ]
                    refine getV 8 (.float .f64 e1) rfl (some 192) (by as_aux_lemma => kernel_rfl) (by as_aux_lemma => kernel_rfl) (by as_aux_lemma => kernel_rfl) (by as_aux_lemma => kernel_rfl) (by as_aux_lemma => kernel_rfl) hCalm hHeld (fun w' hS => by rw [hSdef] at hS; obtain ⟨g1, g2, g3, g4⟩ := hS; go_simp) ?_
                    simp only [Act.put, List.setIfInBounds_toArray, List.set_cons_zero, List.set_cons_succ]
                    refine getV 9 (.slice (some ⟨D, 0, none⟩) 2 2) rfl (some 193) (by as_aux_lemma => kernel_rfl) (by as_aux_lemma => kernel_rfl) (by as_aux_lemma => kernel_rfl) (by as_aux_lemma => kernel_rfl) (by as_aux_lemma => kernel_rfl) hCalm hHeld (fun w' hS => by rw [hSdef] at hS; obtain ⟨g1, g2, g3, g4⟩ := hS; go_simp) ?_
                    simp only [Act.put, List.setIfInBounds_toArray, List.set_cons_zero, List.set_cons_succ]
                    refine getV 10 (.pointer (some ⟨D, 0, none⟩)) rfl (some 194) (by as_aux_lemma => kernel_rfl) (by as_aux_lemma => kernel_rfl) (by as_aux_lemma => kernel_rfl) (by as_aux_lemma => kernel_rfl) (by as_aux_lemma => kernel_rfl) hCalm hHeld (fun w' hS => by rw [hSdef] at hS; obtain ⟨g1, g2, g3, g4⟩ := hS; go_simp) ?_
                    simp only [Act.put, List.setIfInBounds_toArray, List.set_cons_zero, List.set_cons_succ]
                    refine getV 11 (.float .f64 z2) rfl (some 195) (by as_aux_lemma => kernel_rfl) (by as_aux_lemma => kernel_rfl) (by as_aux_lemma => kernel_rfl) (by as_aux_lemma => kernel_rfl) (by as_aux_lemma => kernel_rfl) hCalm hHeld (fun w' hS => by rw [hSdef] at hS; obtain ⟨g1, g2, g3, g4⟩ := hS; go_simp) ?_
                    simp only [Act.put, List.setIfInBounds_toArray, List.set_cons_zero, List.set_cons_succ]
                    refine getF 12 [] .mul 22 22 (.tmp 192) (.tmp 195) e1 z2 rfl rfl (.inr (.inr (.inl rfl))) (some 196) (by as_aux_lemma => kernel_rfl) (by as_aux_lemma => kernel_rfl) (by as_aux_lemma => kernel_rfl) (by as_aux_lemma => kernel_rfl) (by as_aux_lemma => kernel_rfl) (by as_aux_lemma => kernel_rfl) (by as_aux_lemma => kernel_rfl) hCalm hHeld (by as_aux_lemma => kernel_rfl) (by as_aux_lemma => kernel_rfl) ?_
                    intro rr hrr
                    obtain rfl := fix hrr (HALL.out.2.2.2.2.2.2.2.2.2.2.2.2.2.2.2.2.2.2.2.2.2.2.1)
                    clear hrr
                    simp only [Act.put, List.setIfInBounds_toArray, List.set_cons_zero, List.set_cons_succ]
                    refine getF 13 [] .sub 22 22 (.tmp 190) (.tmp 196) n1 n2 rfl rfl (.inr (.inl rfl)) (some 197) (by as_aux_lemma => kernel_rfl) (by as_aux_lemma => kernel_rfl) (by as_aux_lemma => kernel_rfl) (by as_aux_lemma => kernel_rfl) (by as_aux_lemma => kernel_rfl) (by as_aux_lemma => kernel_rfl) (by as_aux_lemma => kernel_rfl) hCalm hHeld (by as_aux_lemma => kernel_rfl) (by as_aux_lemma => kernel_rfl) ?_
                    intro rr hrr
                    obtain rfl := fix hrr (HALL.out.2.2.2.2.2.2.2.2.2.2.2.2.2.2.2.2.2.2.2.2.2.2.2.1)
                    clear hrr
                    simp only [Act.put, List.setIfInBounds_toArray, List.set_cons_zero, List.set_cons_succ]
                    refine getF 14 [] .mul 22 22 (.tmp 184) (.tmp 197) rt n3 rfl rfl (.inr (.inr (.inl rfl))) (some 198) (by as_aux_lemma => kernel_rfl) (by as_aux_lemma => kernel_rfl) (by as_aux_lemma => kernel_rfl) (by as_aux_lemma => kernel_rfl) (by as_aux_lemma => kernel_rfl) (by as_aux_lemma => kernel_rfl) (by as_aux_lemma => kernel_rfl) hCalm hHeld (by as_aux_lemma => kernel_rfl) (by as_aux_lemma => kernel_rfl) ?_
                    intro rr hrr
                    obtain rfl := fix hrr (HALL.out.2.2.2.2.2.2.2.2.2.2.2.2.2.2.2.2.2.2.2.2.2.2.2.2.1)
                    clear hrr
                    simp only [Act.put, List.setIfInBounds_toArray, List.set_cons_zero, List.set_cons_succ]
                    refine getV 15 (.float .f64 co) rfl (some 30) (by as_aux_lemma => kernel_rfl) (by as_aux_lemma => kernel_rfl) (by as_aux_lemma => kernel_rfl) (by as_aux_lemma => kernel_rfl) (by as_aux_lemma => kernel_rfl) hCalm hHeld (fun w' hS => by rw [hSdef] at hS; obtain ⟨g1, g2, g3, g4⟩ := hS; go_simp) ?_
                    simp only [Act.put, List.setIfInBounds_toArray, List.set_cons_zero, List.set_cons_succ]
                    refine doneD (by as_aux_lemma => kernel_rfl) (fun d => ?_)
                    clear hHeld hCalm hSdef
                    go_wp2
                    go_meet
                    exact ⟨rfl, hMk2.out _ _ hM (below_drewN (below_drewN (Below.refl _ _) _) _)⟩
                  case rest =>
                    clear hM
                    obtain ⟨rfl, hM⟩ := hcut
                    go_upto_region 28 with fail
                    go_cut [31, 32] (fun a1 a2 wx => a1 = .float .f64 c1 ∧ a2 = .float .f64 sz1 ∧ Mid2 wx)
                    case first => as_aux_lemma =>
                      have hMM := hM
                      rw [HMid2.out] at hMM
                      obtain ⟨hMd, hPE, _, _, _⟩ := hMM
                      rw [HMid.out] at hMd
                      obtain ⟨hGGc, _, hP, hD, _⟩ := hMd
                      refine wp_region_noPanic ?_
                      obtain ⟨S, hSdef⟩ : ∃ S : World → Prop, S = (fun w' : World => w'.cell? ⟨D, 0, none⟩ = some (.float .f64 z2) ∧ w'.cell? ⟨D, 1, none⟩ = some (.float .f64 z3) ∧ w'.cell? ⟨BM, 0, none⟩ = some (.float .f64 x1) ∧ w'.cell? ⟨BM, 1, none⟩ = some (.float .f64 y1)) := ⟨_, rfl⟩
                      have hCalm : Calm S := by rw [hSdef]; exact fun _ _ h => h
                      refine wp_region_D S (by as_aux_lemma => kernel_rfl) ?_
                      have hHeld : S (wc.drewN 1) := by
                        rw [hSdef]
                        exact ⟨hD.1, hD.2.1, hP.1, hP.2.1⟩
                      refine getV 16 (.float .f64 dd) rfl (some 215) (by as_aux_lemma => kernel_rfl) (by as_aux_lemma => kernel_rfl) (by as_aux_lemma => kernel_rfl) (by as_aux_lemma => kernel_rfl) (by as_aux_lemma => kernel_rfl) hCalm hHeld (fun w' hS => by rw [hSdef] at hS; obtain ⟨g1, g2, g3, g4⟩ := hS; go_simp) ?_
                      simp only [Act.put, List.setIfInBounds_toArray, List.set_cons_zero, List.set_cons_succ]
                      refine getC 17 [] 24 #[.float .f64 dd] (fun v => v = .float .f64 sd) rfl (some 216) (by as_aux_lemma => kernel_rfl) (by as_aux_lemma => kernel_rfl) (by as_aux_lemma => kernel_rfl) (by as_aux_lemma => kernel_rfl) (by as_aux_lemma => kernel_rfl) (by as_aux_lemma => kernel_rfl) (by as_aux_lemma => kernel_rfl) hCalm hHeld ⟨_, rfl⟩ (fun w' hS => by go_simp) (fun w' hS => ?_) ?_
                      · refine (sqrt_any dd w').mono ?_
                        rintro e w1 ⟨rr, d, rfl, hrt, rfl⟩
                        obtain rfl := (hrt.2 _ (HALL.out.2.2.2.2.2.2.2.2.2.2.2.2.2.2.2.2.2.2.2.2.2.2.2.2.2.2.2.2.2.1).out).symm
                        exact ⟨_, d, rfl, rfl, rfl⟩
                      rintro _ rfl
                      simp only [Act.put, List.setIfInBounds_toArray, List.set_cons_zero, List.set_cons_succ]
                      refine getV 0 (.pointer (some ⟨BM, 0, none⟩)) rfl (some 199) (by as_aux_lemma => kernel_rfl) (by as_aux_lemma => kernel_rfl) (by as_aux_lemma => kernel_rfl) (by as_aux_lemma => kernel_rfl) (by as_aux_lemma => kernel_rfl) hCalm hHeld (fun w' hS => by rw [hSdef] at hS; obtain ⟨g1, g2, g3, g4⟩ := hS; go_simp) ?_
                      simp only [Act.put, List.setIfInBounds_toArray, List.set_cons_zero, List.set_cons_succ]
                      refine getV 1 (.float .f64 x1) rfl (some 200) (by as_aux_lemma => kernel_rfl) (by as_aux_lemma => kernel_rfl) (by as_aux_lemma => kernel_rfl) (by as_aux_lemma => kernel_rfl) (by as_aux_lemma => kernel_rfl) hCalm hHeld (fun w' hS => by rw [hSdef] at hS; obtain ⟨g1, g2, g3, g4⟩ := hS; go_simp) ?_
                      simp only [Act.put, List.setIfInBounds_toArray, List.set_cons_zero, List.set_cons_succ]
                      refine getV 2 (.slice (some ⟨D, 0, none⟩) 2 2) rfl (some 201) (by as_aux_lemma => kernel_rfl) (by as_aux_lemma => kernel_rfl) (by as_aux_lemma => kernel_rfl) (by as_aux_lemma => kernel_rfl) (by as_aux_lemma => kernel_rfl) hCalm hHeld (fun w' hS => by rw [hSdef] at hS; obtain ⟨g1, g2, g3, g4⟩ := hS; go_simp) ?_
                      simp only [Act.put, List.setIfInBounds_toArray, List.set_cons_zero, List.set_cons_succ]
                      refine getV 3 (.pointer (some ⟨D, 0, none⟩)) rfl (some 202) (by as_aux_lemma => kernel_rfl) (by as_aux_lemma => kernel_rfl) (by as_aux_lemma => kernel_rfl) (by as_aux_lemma => kernel_rfl) (by as_aux_lemma => kernel_rfl) hCalm hHeld (fun w' hS => by rw [hSdef] at hS; obtain ⟨g1, g2, g3, g4⟩ := hS; go_simp) ?_
                      simp only [Act.put, List.setIfInBounds_toArray, List.set_cons_zero, List.set_cons_succ]
                      refine getV 4 (.float .f64 z2) rfl (some 203) (by as_aux_lemma => kernel_rfl) (by as_aux_lemma => kernel_rfl) (by as_aux_lemma => kernel_rfl) (by as_aux_lemma => kernel_rfl) (by as_aux_lemma => kernel_rfl) hCalm hHeld (fun w' hS => by rw [hSdef] at hS; obtain ⟨g1, g2, g3, g4⟩ := hS; go_simp) ?_
                      simp only [Act.put, List.setIfInBounds_toArray, List.set_cons_zero, List.set_cons_succ]
                      refine getF 5 [] .mul 22 22 (.tmp 200) (.tmp 203) x1 z2 rfl rfl (.inr (.inr (.inl rfl))) (some 204) (by as_aux_lemma => kernel_rfl) (by as_aux_lemma => kernel_rfl) (by as_aux_lemma => kernel_rfl) (by as_aux_lemma => kernel_rfl) (by as_aux_lemma => kernel_rfl) (by as_aux_lemma => kernel_rfl) (by as_aux_lemma => kernel_rfl) hCalm hHeld (by as_aux_lemma => kernel_rfl) (by as_aux_lemma => kernel_rfl) ?_
                      intro rr hrr
                      obtain rfl := fix hrr (HALL.out.2.2.2.2.2.2.2.2.2.2.2.2.2.2.2.2.2.2.2.2.2.2.2.2.2.1)
                      clear hrr
                      simp only [Act.put, List.setIfInBounds_toArray, List.set_cons_zero, List.set_cons_succ]
                      refine getV 6 (.pointer (some ⟨BM, 1, none⟩)) rfl (some 205) (by as_aux_lemma => kernel_rfl) (by as_aux_lemma => kernel_rfl) (by as_aux_lemma => kernel_rfl) (by as_aux_lemma => kernel_rfl) (by as_aux_lemma => kernel_rfl) hCalm hHeld (fun w' hS => by rw [hSdef] at hS; obtain ⟨g1, g2, g3, g4⟩ := hS; go_simp) ?_
                      simp only [Act.put, List.setIfInBounds_toArray, List.set_cons_zero, List.set_cons_succ]
                      refine getV 7 (.float .f64 y1) rfl (some 206) (by as_aux_lemma => kernel_rfl) (by as_aux_lemma => kernel_rfl) (by as_aux_lemma => kernel_rfl) (by as_aux_lemma => kernel_rfl) (by as_aux_lemma => kernel_rfl) hCalm hHeld (fun w' hS => by rw [hSdef] at hS; obtain ⟨g1, g2, g3, g4⟩ := hS; go_simp) ?_
                      simp only [Act.put, List.setIfInBounds_toArray, List.set_cons_zero, List.set_cons_succ]
                      refine getV 8 (.slice (some ⟨D, 0, none⟩) 2 2) rfl (some 207) (by as_aux_lemma => kernel_rfl) (by as_aux_lemma => kernel_rfl) (by as_aux_lemma => kernel_rfl) (by as_aux_lemma => kernel_rfl) (by as_aux_lemma => kernel_rfl) hCalm hHeld (fun w' hS => by rw [hSdef] at hS; obtain ⟨g1, g2, g3, g4⟩ := hS; go_simp) ?_
                      simp only [Act.put, List.setIfInBounds_toArray, List.set_cons_zero, List.set_cons_succ]
                      refine getV 9 (.pointer (some ⟨D, 1, none⟩)) rfl (some 208) (by as_aux_lemma => kernel_rfl) (by as_aux_lemma => kernel_rfl) (by as_aux_lemma => kernel_rfl) (by as_aux_lemma => kernel_rfl) (by as_aux_lemma => kernel_rfl) hCalm hHeld (fun w' hS => by rw [hSdef] at hS; obtain ⟨g1, g2, g3, g4⟩ := hS; go_simp) ?_
                      simp only [Act.put, List.setIfInBounds_toArray, List.set_cons_zero, List.set_cons_succ]
                      refine getV 10 (.float .f64 z3) rfl (some 209) (by as_aux_lemma => kernel_rfl) (by as_aux_lemma => kernel_rfl) (by as_aux_lemma => kernel_rfl) (by as_aux_lemma => kernel_rfl) (by as_aux_lemma => kernel_rfl) hCalm hHeld (fun w' hS => by rw [hSdef] at hS; obtain ⟨g1, g2, g3, g4⟩ := hS; go_simp) ?_
                      simp only [Act.put, List.setIfInBounds_toArray, List.set_cons_zero, List.set_cons_succ]
                      refine getF 11 [] .mul 22 22 (.tmp 206) (.tmp 209) y1 z3 rfl rfl (.inr (.inr (.inl rfl))) (some 210) (by as_aux_lemma => kernel_rfl) (by as_aux_lemma => kernel_rfl) (by as_aux_lemma => kernel_rfl) (by as_aux_lemma => kernel_rfl) (by as_aux_lemma => kernel_rfl) (by as_aux_lemma => kernel_rfl) (by as_aux_lemma => kernel_rfl) hCalm hHeld (by as_aux_lemma => kernel_rfl) (by as_aux_lemma => kernel_rfl) ?_
                      intro rr hrr
                      obtain rfl := fix hrr (HALL.out.2.2.2.2.2.2.2.2.2.2.2.2.2.2.2.2.2.2.2.2.2.2.2.2.2.2.1)
                      clear hrr
                      simp only [Act.put, List.setIfInBounds_toArray, List.set_cons_zero, List.set_cons_succ]
                      refine getF 12 [] .add 22 22 (.tmp 204) (.tmp 210) k1 k2 rfl rfl (.inl rfl) (some 211) (by as_aux_lemma => kernel_rfl) (by as_aux_lemma => kernel_rfl) (by as_aux_lemma => kernel_rfl) (by as_aux_lemma => kernel_rfl) (by as_aux_lemma => kernel_rfl) (by as_aux_lemma => kernel_rfl) (by as_aux_lemma => kernel_rfl) hCalm hHeld (by as_aux_lemma => kernel_rfl) (by as_aux_lemma => kernel_rfl) ?_
                      intro rr hrr
                      obtain rfl := fix hrr (HALL.out.2.2.2.2.2.2.2.2.2.2.2.2.2.2.2.2.2.2.2.2.2.2.2.2.2.2.2.1)
                      clear hrr
                      simp only [Act.put, List.setIfInBounds_toArray, List.set_cons_zero, List.set_cons_succ]
                      refine getV 13 (.float .f64 dd) rfl (some 212) (by as_aux_lemma => kernel_rfl) (by as_aux_lemma => kernel_rfl) (by as_aux_lemma => kernel_rfl) (by as_aux_lemma => kernel_rfl) (by as_aux_lemma => kernel_rfl) hCalm hHeld (fun w' hS => by rw [hSdef] at hS; obtain ⟨g1, g2, g3, g4⟩ := hS; go_simp) ?_
                      simp only [Act.put, List.setIfInBounds_toArray, List.set_cons_zero, List.set_cons_succ]
                      refine getF 14 [] .add 22 22 (.tmp 211) (.tmp 212) k3 dd rfl rfl (.inl rfl) (some 213) (by as_aux_lemma => kernel_rfl) (by as_aux_lemma => kernel_rfl) (by as_aux_lemma => kernel_rfl) (by as_aux_lemma => kernel_rfl) (by as_aux_lemma => kernel_rfl) (by as_aux_lemma => kernel_rfl) (by as_aux_lemma => kernel_rfl) hCalm hHeld (by as_aux_lemma => kernel_rfl) (by as_aux_lemma => kernel_rfl) ?_
                      intro rr hrr
                      obtain rfl := fix hrr (HALL.out.2.2.2.2.2.2.2.2.2.2.2.2.2.2.2.2.2.2.2.2.2.2.2.2.2.2.2.2.1)
                      clear hrr
                      simp only [Act.put, List.setIfInBounds_toArray, List.set_cons_zero, List.set_cons_succ]
                      refine getV 15 (.float .f64 bt) rfl (some 214) (by as_aux_lemma => kernel_rfl) (by as_aux_lemma => kernel_rfl) (by as_aux_lemma => kernel_rfl) (by as_aux_lemma => kernel_rfl) (by as_aux_lemma => kernel_rfl) hCalm hHeld (fun w' hS => by rw [hSdef] at hS; obtain ⟨g1, g2, g3, g4⟩ := hS; go_simp) ?_
                      simp only [Act.put, List.setIfInBounds_toArray, List.set_cons_zero, List.set_cons_succ]
                      refine getF 18 [] .mul 22 22 (.tmp 214) (.tmp 216) bt sd rfl rfl (.inr (.inr (.inl rfl))) (some 217) (by as_aux_lemma => kernel_rfl) (by as_aux_lemma => kernel_rfl) (by as_aux_lemma => kernel_rfl) (by as_aux_lemma => kernel_rfl) (by as_aux_lemma => kernel_rfl) (by as_aux_lemma => kernel_rfl) (by as_aux_lemma => kernel_rfl) hCalm hHeld (by as_aux_lemma => kernel_rfl) (by as_aux_lemma => kernel_rfl) ?_
                      intro rr hrr
                      obtain rfl := fix hrr (HALL.out.2.2.2.2.2.2.2.2.2.2.2.2.2.2.2.2.2.2.2.2.2.2.2.2.2.2.2.2.2.2.1)
                      clear hrr
                      simp only [Act.put, List.setIfInBounds_toArray, List.set_cons_zero, List.set_cons_succ]
                      refine getV 19 (.float .f64 dd) rfl (some 218) (by as_aux_lemma => kernel_rfl) (by as_aux_lemma => kernel_rfl) (by as_aux_lemma => kernel_rfl) (by as_aux_lemma => kernel_rfl) (by as_aux_lemma => kernel_rfl) hCalm hHeld (fun w' hS => by rw [hSdef] at hS; obtain ⟨g1, g2, g3, g4⟩ := hS; go_simp) ?_
                      simp only [Act.put, List.setIfInBounds_toArray, List.set_cons_zero, List.set_cons_succ]
                      refine getF 20 [] .add 22 22 (.tmp 217) (.tmp 218) k4 dd rfl rfl (.inl rfl) (some 219) (by as_aux_lemma => kernel_rfl) (by as_aux_lemma => kernel_rfl) (by as_aux_lemma => kernel_rfl) (by as_aux_lemma => kernel_rfl) (by as_aux_lemma => kernel_rfl) (by as_aux_lemma => kernel_rfl) (by as_aux_lemma => kernel_rfl) hCalm hHeld (by as_aux_lemma => kernel_rfl) (by as_aux_lemma => kernel_rfl) ?_
                      intro rr hrr
                      obtain rfl := fix hrr (HALL.out.2.2.2.2.2.2.2.2.2.2.2.2.2.2.2.2.2.2.2.2.2.2.2.2.2.2.2.2.2.2.2.1)
                      clear hrr
                      simp only [Act.put, List.setIfInBounds_toArray, List.set_cons_zero, List.set_cons_succ]
                      refine getV 21 (.float .f64 c1) rfl (some 31) (by as_aux_lemma => kernel_rfl) (by as_aux_lemma => kernel_rfl) (by as_aux_lemma => kernel_rfl) (by as_aux_lemma => kernel_rfl) (by as_aux_lemma => kernel_rfl) hCalm hHeld (fun w' hS => by rw [hSdef] at hS; obtain ⟨g1, g2, g3, g4⟩ := hS; go_simp) ?_
                      simp only [Act.put, List.setIfInBounds_toArray, List.set_cons_zero, List.set_cons_succ]
                      refine getV 22 (.float .f64 sz1) rfl (some 32) (by as_aux_lemma => kernel_rfl) (by as_aux_lemma => kernel_rfl) (by as_aux_lemma => kernel_rfl) (by as_aux_lemma => kernel_rfl) (by as_aux_lemma => kernel_rfl) hCalm hHeld (fun w' hS => by rw [hSdef] at hS; obtain ⟨g1, g2, g3, g4⟩ := hS; go_simp) ?_
                      simp only [Act.put, List.setIfInBounds_toArray, List.set_cons_zero, List.set_cons_succ]
                      refine doneD (by as_aux_lemma => kernel_rfl) (fun d => ?_)
                      clear hHeld hCalm hSdef
                      go_wp2
                      go_meet
                      exact ⟨rfl, rfl, hMk2.out _ _ hM (below_drewN (below_drewN (Below.refl _ _) _) _)⟩
                    case rest =>
                      clear hM
                      obtain ⟨rfl, rfl, hM⟩ := hcut
                      go_upto_region 29 with fail
                      go_cut [33, 34] (fun a1 a2 wx => a1 = .float .f64 gB ∧ a2 = .float .f64 gO ∧ Mid2 wx)
                      case first => as_aux_lemma =>
                        have hMM := hM
                        rw [HMid2.out] at hMM
                        obtain ⟨hMd, hPE, _, _, _⟩ := hMM
                        rw [HMid.out] at hMd
                        obtain ⟨hGGc, _, hP, hD, _⟩ := hMd
                        refine wp_region_noPanic ?_
                        obtain ⟨S, hSdef⟩ : ∃ S : World → Prop, S = (fun w' : World => w'.cell? ⟨GG, 0, none⟩ = some (.float .f64 gO0)) := ⟨_, rfl⟩
                        have hCalm : Calm S := by rw [hSdef]; exact fun _ _ h => h
                        refine wp_region_D S (by as_aux_lemma => kernel_rfl) ?_
                        have hHeld : S (wc.drewN 1) := by
                          rw [hSdef]
                          exact hGGc
                        refine getV 0 (.float .f64 gB0) rfl (some 220) (by as_aux_lemma => kernel_rfl) (by as_aux_lemma => kernel_rfl) (by as_aux_lemma => kernel_rfl) (by as_aux_lemma => kernel_rfl) (by as_aux_lemma => kernel_rfl) hCalm hHeld (fun w' hS => by rw [hSdef] at hS; have g1 := hS; go_simp) ?_
                        simp only [Act.put, List.setIfInBounds_toArray, List.set_cons_zero, List.set_cons_succ]
                        refine getV 1 (.int .i64 ex) rfl (some 221) (by as_aux_lemma => kernel_rfl) (by as_aux_lemma => kernel_rfl) (by as_aux_lemma => kernel_rfl) (by as_aux_lemma => kernel_rfl) (by as_aux_lemma => kernel_rfl) hCalm hHeld (fun w' hS => by rw [hSdef] at hS; have g1 := hS; go_simp) ?_
                        simp only [Act.put, List.setIfInBounds_toArray, List.set_cons_zero, List.set_cons_succ]
                        refine getV 2 (.int .i64 (-2 * ex)) rfl (some 222) (by as_aux_lemma => kernel_rfl) (by as_aux_lemma => kernel_rfl) (by as_aux_lemma => kernel_rfl) (by as_aux_lemma => kernel_rfl) (by as_aux_lemma => kernel_rfl) hCalm hHeld (fun w' hS => by clear hS hHeld hCalm hSdef; go_simp; exact wrap_i _ (by omega) (by omega)) ?_
                        simp only [Act.put, List.setIfInBounds_toArray, List.set_cons_zero, List.set_cons_succ]
                        refine getV 4 (.slice (some ⟨GG, 0, none⟩) 1 cG) rfl (some 224) (by as_aux_lemma => kernel_rfl) (by as_aux_lemma => kernel_rfl) (by as_aux_lemma => kernel_rfl) (by as_aux_lemma => kernel_rfl) (by as_aux_lemma => kernel_rfl) hCalm hHeld (fun w' hS => by rw [hSdef] at hS; have g1 := hS; go_simp) ?_
                        simp only [Act.put, List.setIfInBounds_toArray, List.set_cons_zero, List.set_cons_succ]
                        refine getV 5 (.int .i64 0) rfl (some 225) (by as_aux_lemma => kernel_rfl) (by as_aux_lemma => kernel_rfl) (by as_aux_lemma => kernel_rfl) (by as_aux_lemma => kernel_rfl) (by as_aux_lemma => kernel_rfl) hCalm hHeld (fun w' hS => by rw [hSdef] at hS; have g1 := hS; go_simp) ?_
                        simp only [Act.put, List.setIfInBounds_toArray, List.set_cons_zero, List.set_cons_succ]
                        refine getV 6 (.pointer (some ⟨GG, 0, none⟩)) rfl (some 226) (by as_aux_lemma => kernel_rfl) (by as_aux_lemma => kernel_rfl) (by as_aux_lemma => kernel_rfl) (by as_aux_lemma => kernel_rfl) (by as_aux_lemma => kernel_rfl) hCalm hHeld (fun w' hS => by rw [hSdef] at hS; have g1 := hS; go_simp) ?_
                        simp only [Act.put, List.setIfInBounds_toArray, List.set_cons_zero, List.set_cons_succ]
                        refine getV 7 (.float .f64 gO0) rfl (some 227) (by as_aux_lemma => kernel_rfl) (by as_aux_lemma => kernel_rfl) (by as_aux_lemma => kernel_rfl) (by as_aux_lemma => kernel_rfl) (by as_aux_lemma => kernel_rfl) hCalm hHeld (fun w' hS => by rw [hSdef] at hS; have g1 := hS; go_simp) ?_
                        simp only [Act.put, List.setIfInBounds_toArray, List.set_cons_zero, List.set_cons_succ]
                        refine getV 8 (.int .i64 ex) rfl (some 228) (by as_aux_lemma => kernel_rfl) (by as_aux_lemma => kernel_rfl) (by as_aux_lemma => kernel_rfl) (by as_aux_lemma => kernel_rfl) (by as_aux_lemma => kernel_rfl) hCalm hHeld (fun w' hS => by rw [hSdef] at hS; have g1 := hS; go_simp) ?_
                        simp only [Act.put, List.setIfInBounds_toArray, List.set_cons_zero, List.set_cons_succ]
                        refine getV 9 (.int .i64 (-2 * ex)) rfl (some 229) (by as_aux_lemma => kernel_rfl) (by as_aux_lemma => kernel_rfl) (by as_aux_lemma => kernel_rfl) (by as_aux_lemma => kernel_rfl) (by as_aux_lemma => kernel_rfl) hCalm hHeld (fun w' hS => by clear hS hHeld hCalm hSdef; go_simp; exact wrap_i _ (by omega) (by omega)) ?_
                        simp only [Act.put, List.setIfInBounds_toArray, List.set_cons_zero, List.set_cons_succ]
                        have hL1 : ∀ W0, S W0 → ∀ d, Calls Yba.prog 22 #[.float .f64 gB0, .int .i64 (-2 * ex)] (W0.drewN d) fun e w' => ∃ v, e = .returned v ∧ S w' ∧ v = .float .f64 gB ∧ ∃ d, w' = W0.drewN d := fun W0 hS0 d => by
                          refine (Ldexp_any gB0 (-2 * ex) _ HL2.out (by omega)).mono ?_
                          rintro e w' ⟨r, d', rfl, rfl, hr⟩
                          obtain rfl := (hr.2 _ (HALL.out.2.2.2.2.2.2.2.2.2.2.2.2.2.2.2.2.2.2.2.2.2.2.2.2.2.2.2.2.2.2.2.2.1).out).symm
                          exact ⟨_, rfl, hCalm _ _ (hCalm _ _ hS0), rfl, _, World.drewN_drewN _ _ _⟩
                        have hL2 : ∀ W0, S W0 → ∀ d, Calls Yba.prog 22 #[.float .f64 gO0, .int .i64 (-2 * ex)] (W0.drewN d) fun e w' => ∃ v, e = .returned v ∧ S w' ∧ v = .float .f64 gO ∧ ∃ d, w' = W0.drewN d := fun W0 hS0 d => by
                          refine (Ldexp_any gO0 (-2 * ex) _ HL3.out (by omega)).mono ?_
                          rintro e w' ⟨r, d', rfl, rfl, hr⟩
                          obtain rfl := (hr.2 _ (HALL.out.2.2.2.2.2.2.2.2.2.2.2.2.2.2.2.2.2.2.2.2.2.2.2.2.2.2.2.2.2.2.2.2.2.1).out).symm
                          exact ⟨_, rfl, hCalm _ _ (hCalm _ _ hS0), rfl, _, World.drewN_drewN _ _ _⟩
                        refine soleC 3 22 #[.float .f64 gB0, .int .i64 (-2 * ex)] (fun v w' => v = .float .f64 gB ∧ ∃ d, w' = (wc.drewN 1).drewN d) rfl (some 223) (by as_aux_lemma => kernel_rfl) (by as_aux_lemma => kernel_rfl) (by as_aux_lemma => kernel_rfl) (fun d => by clear hL1 hL2; go_simp) (hL1 _ hHeld) ?_
                        rintro _ _ hS1 ⟨rfl, d1, rfl⟩
                        simp only [Act.put, List.setIfInBounds_toArray, List.set_cons_zero, List.set_cons_succ]
                        refine soleC 10 22 #[.float .f64 gO0, .int .i64 (-2 * ex)] (fun v w' => v = .float .f64 gO ∧ ∃ d, w' = ((wc.drewN 1).drewN d1).drewN d) rfl (some 230) (by as_aux_lemma => kernel_rfl) (by as_aux_lemma => kernel_rfl) (by as_aux_lemma => kernel_rfl) (fun d => by clear hL1 hL2; go_simp) (hL2 _ hS1) ?_
                        rintro _ _ hS2 ⟨rfl, d2, rfl⟩
                        simp only [Act.put, List.setIfInBounds_toArray, List.set_cons_zero, List.set_cons_succ]
                        refine soleV 11 (.float .f64 gB) _ rfl (some 33) (by as_aux_lemma => kernel_rfl) (by as_aux_lemma => kernel_rfl) (by as_aux_lemma => kernel_rfl) hCalm hS2 (fun d => by clear hL1 hL2; go_simp) ?_
                        simp only [Act.put, List.setIfInBounds_toArray, List.set_cons_zero, List.set_cons_succ]
                        refine soleV 12 (.float .f64 gO) _ rfl (some 34) (by as_aux_lemma => kernel_rfl) (by as_aux_lemma => kernel_rfl) (by as_aux_lemma => kernel_rfl) hCalm hS2 (fun d => by clear hL1 hL2; go_simp) ?_
                        simp only [Act.put, List.setIfInBounds_toArray, List.set_cons_zero, List.set_cons_succ]
                        refine doneD (by as_aux_lemma => kernel_rfl) (fun d => ?_)
                        clear hL1 hL2 hHeld hCalm hSdef hS1 hS2
                        go_wp2
                        go_meet
                        exact ⟨rfl, rfl, hMk2.out _ _ hM (below_drewN (below_drewN (below_drewN (below_drewN (Below.refl _ _) _) _) _) _)⟩
                      case rest =>
                        clear hM
                        obtain ⟨rfl, rfl, hM⟩ := hcut
                        have ft1 : ∀ w, (binOp .add 22 (.float .f64 gB) (.float .f64 gO)).run Yba.prog w = .ok (.float .f64 t1) w := fun w => run_float_arith w .add 22 .f64 _ _ _ (HALL.out.2.2.2.2.2.2.2.2.2.2.2.2.2.2.2.2.2.2.2.2.2.2.2.2.2.2.2.2.2.2.2.2.2.2.1).out
                        have ft2 : ∀ w, (binOp .add 22 (.float .f64 t1) (.float .f64 dd)).run Yba.prog w = .ok (.float .f64 t2) w := fun w => run_float_arith w .add 22 .f64 _ _ _ (HALL.out.2.2.2.2.2.2.2.2.2.2.2.2.2.2.2.2.2.2.2.2.2.2.2.2.2.2.2.2.2.2.2.2.2.2.2.1).out
                        have fte : ∀ w, (binOp .quo 22 (.float .f64 t2) (.float .f64 4611686018427387904)).run Yba.prog w = .ok (.float .f64 te) w := fun w => run_float_arith w .quo 22 .f64 _ _ _ (HALL.out.2.2.2.2.2.2.2.2.2.2.2.2.2.2.2.2.2.2.2.2.2.2.2.2.2.2.2.2.2.2.2.2.2.2.2.2.1).out
                        have ft3 : ∀ w, (binOp .sub 22 (.float .f64 gB) (.float .f64 gO)).run Yba.prog w = .ok (.float .f64 t3) w := fun w => run_float_arith w .sub 22 .f64 _ _ _ (HALL.out.2.2.2.2.2.2.2.2.2.2.2.2.2.2.2.2.2.2.2.2.2.2.2.2.2.2.2.2.2.2.2.2.2.2.2.2.2.1).out
                        have ft4 : ∀ w, (binOp .add 22 (.float .f64 t3) (.float .f64 dd)).run Yba.prog w = .ok (.float .f64 t4) w := fun w => run_float_arith w .add 22 .f64 _ _ _ (HALL.out.2.2.2.2.2.2.2.2.2.2.2.2.2.2.2.2.2.2.2.2.2.2.2.2.2.2.2.2.2.2.2.2.2.2.2.2.2.2.1).out
                        have fc2 : ∀ w, (binOp .quo 22 (.float .f64 t4) (.float .f64 4611686018427387904)).run Yba.prog w = .ok (.float .f64 c2) w := fun w => run_float_arith w .quo 22 .f64 _ _ _ (HALL.out.2.2.2.2.2.2.2.2.2.2.2.2.2.2.2.2.2.2.2.2.2.2.2.2.2.2.2.2.2.2.2.2.2.2.2.2.2.2.2.1).out
                        obtain ⟨cc, hcc⟩ : ∃ cc, cc = pickC (ord te sz1 == some .lt) c2 c1 := ⟨_, rfl⟩
                        obtain ⟨ss, hss⟩ : ∃ ss, ss = pickC (ord te sz1 == some .lt) te sz1 := ⟨_, rfl⟩
                        have H_l : Hid (hypF co cc = some l) := by rw [hcc]; exact (HALL.out.2.2.2.2.2.2.2.2.2.2.2.2.2.2.2.2.2.2.2.2.2.2.2.2.2.2.2.2.2.2.2.2.2.2.2.2.2.2.2.2.1)
                        have fcf : ∀ w, (binOp .quo 22 (.float .f64 co) (.float .f64 l)).run Yba.prog w = .ok (.float .f64 cf) w := fun w => run_float_arith w .quo 22 .f64 _ _ _ (HALL.out.2.2.2.2.2.2.2.2.2.2.2.2.2.2.2.2.2.2.2.2.2.2.2.2.2.2.2.2.2.2.2.2.2.2.2.2.2.2.2.2.2.1).out
                        have fc : ∀ w, (binOp .quo 22 (.float .f64 cc) (.float .f64 l)).run Yba.prog w = .ok (.float .f64 c) w := fun w => run_float_arith w .quo 22 .f64 _ _ _ (by rw [hcc]; exact (HALL.out.2.2.2.2.2.2.2.2.2.2.2.2.2.2.2.2.2.2.2.2.2.2.2.2.2.2.2.2.2.2.2.2.2.2.2.2.2.2.2.2.2.2.1).out)
                        have fsz : ∀ w, (binOp .quo 22 (.float .f64 ss) (.float .f64 l)).run Yba.prog w = .ok (.float .f64 sz) w := fun w => run_float_arith w .quo 22 .f64 _ _ _ (by rw [hss]; exact (HALL.out.2.2.2.2.2.2.2.2.2.2.2.2.2.2.2.2.2.2.2.2.2.2.2.2.2.2.2.2.2.2.2.2.2.2.2.2.2.2.2.2.2.2.2.1).out)
                        have HCC := hidden hcc
                        have HSS := hidden hss
                        clear hcc hss
                        go_upto_if 239 with fail
                        go_cut [31, 32] (fun a1 a2 wx => a1 = .float .f64 cc ∧ a2 = .float .f64 ss ∧ Mid2 wx)
                        case first => as_aux_lemma =>
                          cases hB : (ord te sz1 == some .lt)
                          · have e1 : cc = c1 := by rw [HCC.out, hB]; rfl
                            have e2 : ss = sz1 := by rw [HSS.out, hB]; rfl
                            clear HCC HSS H_l fcf fc fsz
                            subst e1 e2
                            go_wp2
                            go_meet
                            exact ⟨rfl, rfl, hM⟩
                          · have e1 : cc = c2 := by rw [HCC.out, hB]; rfl
                            have e2 : ss = te := by rw [HSS.out, hB]; rfl
                            clear HCC HSS H_l fcf fc fsz
                            subst e1 e2
                            go_wp2
                            go_meet
                            exact ⟨rfl, rfl, hM⟩
                        case rest =>
                          clear hM ft1 ft2 fte ft3 ft4 fc2 HCC HSS
                          obtain ⟨rfl, rfl, hM⟩ := hcut
                          go_upto_region 33 with fail
                          go_cut [36] (fun v wx => v = .float .f64 l ∧ Mid2 wx)
                          case first => as_aux_lemma =>
                            clear fcf fc fsz
                            go_wp2_with (go_at_call 23; refine (hypot_any co cc _).mono ?_; rintro e w1 ⟨r, d, rfl, rfl, hr⟩; obtain rfl := (hr.2 _ H_l.out).symm; clear hr)
                            go_meet
                            exact ⟨rfl, hMk2.out _ _ hM (below_drewN (Below.refl _ _) d)⟩
                          case rest =>
                            clear hM
                            obtain ⟨rfl, hM⟩ := hcut
                            have hl := HL.out
                            go_upto_region 36 with fail
                            clear hl fcf fc fsz
                            have hMM := hM
                            rw [HMid2.out] at hMM
                            obtain ⟨hMd, _, hA1, hA2, hSr⟩ := hMM
                            rw [HMid.out] at hMd
                            obtain ⟨_, _, _, _, hbW⟩ := hMd
                            obtain ⟨i105, hi105, hz105, hs105, hy105⟩ := info_of info105
                            have lS : A1 + 1 + 1 < wc.heap.size := row_lt hSr
                            have hown0 : wc.ownsRow A1 105 3 (.slice (some ⟨A1 + 1 + 1, 0, none⟩) 2 2) 2 [.slice (some ⟨A1, 0, none⟩) 1 1, .float .f64 b, .float .f64 b, .slice (some ⟨A1 + 1, 0, none⟩) 1 1, .float .f64 b, .float .f64 b] := ⟨rfl, .inr ⟨A1 + 1 + 1, 2, _, rfl, by omega, hSr, Nat.le_refl _, by unfold maxLen; omega, rfl, rfl⟩⟩
                            have hA := below2 wc (.cells #[.float .f64 cf] 22) (.cells #[.slice (some ⟨wc.heap.size, 0, none⟩) 1 1, .float .f64 c, .float .f64 sz] 105)
                            have HOWN := hidden ((hown0.alloc (.cells #[.float .f64 cf] 22)).alloc (.cells #[.slice (some ⟨wc.heap.size, 0, none⟩) 1 1, .float .f64 c, .float .f64 sz] 105))
                            have HA1 := hidden (kept hA1 hA)
                            have HA2 := hidden (kept hA2 hA)
                            have HA3 : Hid (((wc.alloc (.cells #[.float .f64 cf] 22)).alloc (.cells #[.slice (some ⟨wc.heap.size, 0, none⟩) 1 1, .float .f64 c, .float .f64 sz] 105)).cell? ⟨wc.heap.size, 0, none⟩ = some (.float .f64 cf)) := by
                              clear hown0 hSr hA1 hA2 hbW hA HOWN
                              show _ = _
                              go_simp
                            have HBA := hidden (hbW.trans (hA.mono hbW.size))
                            have HNEW : Hid (∀ j u, [Value.slice (some ⟨wc.heap.size, 0, none⟩) 1 1, .float .f64 c, .float .f64 sz][j]? = some u → ((wc.alloc (.cells #[.float .f64 cf] 22)).alloc (.cells #[.slice (some ⟨wc.heap.size, 0, none⟩) 1 1, .float .f64 c, .float .f64 sz] 105)).cell? ((⟨wc.heap.size + 1, 0, none⟩ : Addr).add j) = some u) := by
                              have h := new_list (wc.alloc (.cells #[.float .f64 cf] 22)) [.slice (some ⟨wc.heap.size, 0, none⟩) 1 1, .float .f64 c, .float .f64 sz] 105
                              rw [World.size_alloc] at h
                              exact h
                            clear hown0 hSr hA1 hA2 hbW hA hM
                            go_upto_region 37 with (at_builtin; go_must (refine wpList_append_lies _ (by rfl) _ _ 106 (by rfl) A1 105 i105 (.agg #[.slice none 0 0, .float .f64 0, .float .f64 0]) 3 40 Yba.underlying106 hi105 hz105 hs105 hy105 rfl (by decide) _ _ _ (by rfl) HOWN.out ⟨wc.heap.size + 1, 0, none⟩ 1 1 [.slice (some ⟨wc.heap.size, 0, none⟩) 1 1, .float .f64 c, .float .f64 sz] (by rfl) (by rfl) HNEW.out (by intro u hu; simp at hu; rcases hu with rfl | rfl | rfl <;> rfl) (by decide) (by unfold maxLen; omega) (by omega) (by simp; omega) (wc.heap.size + 1 + 1) (by simp) ?_); intro SS cS w8 hown hgrow hat hlt; have HO := hidden hown; have HG := hidden hgrow; clear hown hgrow hat hlt)
                            have hb8 := HBA.out.grown HG.out HBA.out.size (fun k hk => by simp [Value.ownBlock] at hk; omega)
                            have hB8 := (Below.refl w8.heap.size w8).alloc (Nat.le_refl _) (.cells #[.float .f64 0] 22)
                            have cA1 := kept (cell_grown HA1.out HG.out (by simp [Value.ownBlock]; omega)) hB8
                            have cA2 := kept (cell_grown HA2.out HG.out (by simp [Value.ownBlock])) hB8
                            have cA3 := kept (cell_grown HA3.out HG.out (by simp [Value.ownBlock]; omega)) hB8
                            have cS0 := kept ((HO.out.cellAt 0 (by omega)).trans rfl) hB8
                            have cS1 := kept ((HO.out.cellAt 1 (by omega)).trans rfl) hB8
                            have cS2 := kept ((HO.out.cellAt 2 (by omega)).trans rfl) hB8
                            have cS3 := kept ((HO.out.cellAt 3 (by omega)).trans rfl) hB8
                            have cS4 := kept ((HO.out.cellAt 4 (by omega)).trans rfl) hB8
                            have cS5 := kept ((HO.out.cellAt 5 (by omega)).trans rfl) hB8
                            have cS6 := kept ((HO.out.cellAt 6 (by omega)).trans rfl) hB8
                            have cS7 := kept ((HO.out.cellAt 7 (by omega)).trans rfl) hB8
                            have cS8 := kept ((HO.out.cellAt 8 (by omega)).trans rfl) hB8
                            have cY : (w8.alloc (.cells #[.float .f64 0] 22)).cell? ⟨w8.heap.size, 0, none⟩ = some (.float .f64 0) := by
                              clear cS0 cS1 cS2 cS3 cS4 cS5 cS6 cS7 cS8 cA1 cA2 cA3 hB8 hb8
                              go_simp
                            have HMEET := hidden (meet_three SS A1 (A1 + 1) wc.heap.size w8.heap.size b cf c sz ml cS T _ cS0 cS1 cS2 cS3 cS4 cS5 cS6 cS7 cS8 cA1 cA2 cA3 cY HB0.out HCF.out (HALL.out.2.2.2.2.2.2.2.2.2.2.2.2.2.2.2.2.2.2.2.2.2.2.2.2.2.2.2.2.2.2.2.2.2.2.2.2.2.2.2.2.2.2.2.2).out HT.out)
                            clear cS0 cS1 cS2 cS3 cS4 cS5 cS6 cS7 cS8 cA1 cA2 cA3 cY HO HG HA1 HA2 HA3 HNEW HOWN
                            go_wp2
                            rw [rounds_succ]
                            go_wp2_with (go_at_call 25; refine HMEET.out.mono ?_; rintro e w9 ⟨rfl, hb10⟩)
                            go_ret
                            exact ⟨rfl, hb8.trans ((hB8.trans (hb10.mono hB8.size)).mono hb8.size)⟩

end Go.Proofs.Ybulkavii.A
