/-
  Seat b2335a: the walk of LawS2335CScript (function 8).
-/
import Derived.Test.YbulkaviiCopy
import Derived.Test.YbulkaviiDrop
import Derived.Test.YbulkaviiNeq
import Derived.Deep.RegionHeld3
namespace Go.Proofs.Ybulkavii
open Go.RowKit
namespace C

structure Stp where
  op : Int
  net : Int
  key : Int
  ver : Int
  set : Bool

def Stp.i (s : Stp) : Nat := (s.net % 3).toNat
def Stp.j (s : Stp) : Nat := (s.key % 3).toNat
def Stp.o (s : Stp) : Option (Int × Bool) := if s.op % 2 = 0 then some (s.ver, s.set) else none

/-- What each name holds behind the first k steps. -/
def st (S : Nat → Stp) : Nat → Nat → Nat → Option (Int × Bool)
  | 0 => fun _ _ => none
  | k + 1 => updN (st S k) (S k).i (updN (st S k (S k).i) (S k).j (S k).o)

/-- The cells of step k, from offset o on. -/
structure StepAt (w : World) (b o : Nat) (s : Stp) : Prop where
  c0 : w.cell? ⟨b, o, none⟩ = some (.int .u8 s.op)
  c1 : w.cell? ⟨b, o + 1, none⟩ = some (.int .u8 s.net)
  c2 : w.cell? ⟨b, o + 2, none⟩ = some (.int .u8 s.key)
  c3 : w.cell? ⟨b, o + 3, none⟩ = some (.int .u64 s.ver)
  c4 : w.cell? ⟨b, o + 4, none⟩ = some (.bool s.set)

structure StpOk (s : Stp) : Prop where
  op0 : 0 ≤ s.op
  op1 : s.op ≤ 255
  net0 : 0 ≤ s.net
  net1 : s.net ≤ 255
  key0 : 0 ≤ s.key
  key1 : s.key ≤ 255

theorem StepAt.below {B : Nat} {w w' : World} {b o : Nat} {s : Stp} (h : StepAt w b o s) (hb : Below B w w') (hlt : b < B) : StepAt w' b o s :=
  ⟨(hb.cell (p := ⟨b, o, none⟩) hlt).trans h.c0, (hb.cell (p := ⟨b, o + 1, none⟩) hlt).trans h.c1, (hb.cell (p := ⟨b, o + 2, none⟩) hlt).trans h.c2, (hb.cell (p := ⟨b, o + 3, none⟩) hlt).trans h.c3, (hb.cell (p := ⟨b, o + 4, none⟩) hlt).trans h.c4⟩

theorem box_cell {w w1 : World} {C : Array Value} {t : TypeId} (hb : Below (w.alloc (.cells C t)).heap.size (w.alloc (.cells C t)) w1) (o : Nat) (v : Value) (h : C[o]? = some v) : w1.cell? ⟨w.heap.size, o, none⟩ = some v := by
  rw [hb.cell (p := ⟨w.heap.size, o, none⟩) (by simp), cell_of_row _ _ _ _ _ _ (heap_alloc_new _ _), h]
theorem box_size {w w1 : World} {o : Obj} (hb : Below (w.alloc o).heap.size (w.alloc o) w1) : w.heap.size < w1.heap.size := by
  have := hb.size
  rw [size_alloc] at this
  omega
theorem box_below {w w1 : World} {o : Obj} (hb : Below (w.alloc o).heap.size (w.alloc o) w1) : Below w.heap.size w w1 :=
  ((Below.refl _ _).alloc (Nat.le_refl _) o).trans (hb.mono (by simp))
theorem step_inv {B : Nat} {w : World} {k i j : Nat} {S : Nat → Stp} {o : Option (Int × Bool)} (h : NodeInv B w (2 * k + 2) (updN (st S k) i (updN (st S k i) j o))) (hi : (S k).i = i) (hj : (S k).j = j) (ho : (S k).o = o) : NodeInv B w (2 * (k + 1)) (st S (k + 1)) := by
  subst hi hj ho
  exact h

theorem st_other {S : Nat → Stp} {k i j : Nat} (h : ¬ ((S k).i = i ∧ (S k).j = j)) : st S (k + 1) i j = st S k i j := by
  show updN (st S k) (S k).i (updN (st S k (S k).i) (S k).j (S k).o) i j = _
  unfold updN
  by_cases hi : i = (S k).i
  · subst hi
    have hj : ¬ j = (S k).j := fun e => h ⟨rfl, e.symm⟩
    simp [hj]
  · simp [hi]
theorem st_same {S : Nat → Stp} {k i j : Nat} (hi : (S k).i = i) (hj : (S k).j = j) : st S (k + 1) i j = (S k).o := by
  subst hi hj
  show updN (st S k) (S k).i (updN (st S k (S k).i) (S k).j (S k).o) (S k).i (S k).j = _
  simp [updN]
theorem name_ij (i j : Nat) (w : World) (hi : i < 3) (hj : j < 3) :
    Calls Yba.prog 13 #[.int .u8 (i : Int), .int .u8 (j : Int)] w fun e w' => e = .returned (nameV i j) ∧ Below w.heap.size w w' := by
  have h := name_any (i : Int) (j : Int) w (by omega) (by omega) (by omega) (by omega)
  rw [show ((i : Int) % 3).toNat = i by omega, show ((j : Int) % 3).toNat = j by omega] at h
  exact h

/-- The cells of a copy in its box. -/
abbrev gotBox (w : World) (v : Int) (b : Bool) : World := w.alloc (.cells #[.slice none 0 0, .int .u64 v, .bool b, .int .u64 0, .int .i64 0, .pointer none, .bool false] 90)
theorem copy_none_ij {B : Nat} {w : World} {n : Nat} {σ : Nat → Nat → Option (Int × Bool)} {i j : Nat} (hO : σ i j = none) (h : NodeInv B w n σ) (hi : i < 3) (hj : j < 3) :
    Calls Yba.prog 16 #[.pointer (some ⟨B + 2, 0, none⟩), nameV i j] w fun e w' => e = .returned (.tuple #[.agg #[.slice none 0 0, .int .u64 0, .bool false, .int .u64 0, .int .i64 0, .pointer none, .bool false], .bool false]) ∧ Below w.heap.size w w' := by
  have h1 := copy_any B w n σ i j h hi hj
  rw [hO] at h1
  exact h1
theorem copy_some_ij {B : Nat} {w : World} {n : Nat} {σ : Nat → Nat → Option (Int × Bool)} {i j : Nat} {v : Int} {b : Bool} (hO : σ i j = some (v, b)) (h : NodeInv B w n σ) (hi : i < 3) (hj : j < 3) :
    Calls Yba.prog 16 #[.pointer (some ⟨B + 2, 0, none⟩), nameV i j] w fun e w' => e = .returned (.tuple #[.agg #[.slice none 0 0, .int .u64 v, .bool b, .int .u64 0, .int .i64 0, .pointer none, .bool false], .bool true]) ∧ Below w.heap.size w w' := by
  have h1 := copy_any B w n σ i j h hi hj
  rw [hO] at h1
  exact h1

theorem got_later {wr w1 w2 : World} {n1 : Obj} {v : Int} {b : Bool} (hb1 : Below wr.heap.size wr w1) (hb2 : Below (w1.alloc n1).heap.size (w1.alloc n1) w2) : Below wr.heap.size wr (gotBox w2 v b) :=
  (hb1.trans ((box_below hb2).mono hb1.size)).alloc (Nat.le_trans hb1.size (Nat.le_of_lt (box_size hb2))) _
theorem got_below {w wr w1 w2 : World} {n1 : Obj} {v : Int} {b : Bool} (hnx : Below w.heap.size w wr) (hb1 : Below wr.heap.size wr w1) (hb2 : Below (w1.alloc n1).heap.size (w1.alloc n1) w2) : Below w.heap.size w (gotBox w2 v b) :=
  hnx.trans ((got_later hb1 hb2).mono hnx.size)
theorem name_size {w1 w2 : World} {n1 : Obj} (hb2 : Below (w1.alloc n1).heap.size (w1.alloc n1) w2) : w1.heap.size < w2.heap.size := box_size hb2
theorem got_name {w1 w2 : World} {C : Array Value} {t : TypeId} {v : Int} {b : Bool} (hb2 : Below (w1.alloc (.cells C t)).heap.size (w1.alloc (.cells C t)) w2) (o : Nat) (u : Value) (h : C[o]? = some u) : (gotBox w2 v b).cell? ⟨w1.heap.size, o, none⟩ = some u := by
  rw [World.cell?_alloc_lt _ _ _ (by show w1.heap.size < _; exact name_size hb2)]
  exact box_cell hb2 o u h
theorem got_cell (w2 : World) (v : Int) (b : Bool) (o : Nat) (u : Value) (h : (#[Value.slice none 0 0, .int .u64 v, .bool b, .int .u64 0, .int .i64 0, .pointer none, .bool false] : Array Value)[o]? = some u) : (gotBox w2 v b).cell? ⟨w2.heap.size, o, none⟩ = some u := by
  rw [cell_of_row _ _ _ _ _ _ (heap_alloc_new _ _), h]

theorem undrew {w w1 : World} (h : Below w.drew.heap.size w.drew w1) : Below w.heap.size w w1 := ((Below.refl _ _).drew).trans h

theorem stp_o {op net key ver v : Int} {set b : Bool} (h : some (v, b) = Stp.o ⟨op, net, key, ver, set⟩) : op % 2 = 0 ∧ v = ver ∧ b = set := by
  unfold Stp.o at h
  by_cases hop : op % 2 = 0
  · rw [if_pos hop] at h
    injection h with h
    injection h with h1 h2
    exact ⟨hop, h1, h2⟩
  · rw [if_neg hop] at h
    cases h

theorem start_inv (w : World) (C : Array Value) (S : Nat → Stp) (h16 : C[16]? = some (.map (some w.heap.size))) (h17 : C[17]? = some (.map (some (w.heap.size + 1)))) :
    NodeInv w.heap.size (((w.alloc (.map #[] 0)).alloc (.map #[] 0)).alloc (.cells C 77)) 0 (st S 0) := by
  have hN : (((w.alloc (.map #[] 0)).alloc (.map #[] 0)).alloc (.cells C 77)).heap[w.heap.size + 2]? = some (.cells C 77) := heap_alloc_at _ _ _ (by simp)
  have h0 : (((w.alloc (.map #[] 0)).alloc (.map #[] 0)).alloc (.cells C 77)).heap[w.heap.size]? = (w.alloc (.map #[] 0)).heap[w.heap.size]? := by
    rw [Below.heap_alloc _ _ _ (by simp; omega), Below.heap_alloc _ _ _ (by simp)]
  have h1 : (((w.alloc (.map #[] 0)).alloc (.map #[] 0)).alloc (.cells C 77)).heap[w.heap.size + 1]? = ((w.alloc (.map #[] 0)).alloc (.map #[] 0)).heap[w.heap.size + 1]? := Below.heap_alloc _ _ _ (by simp)
  have m1 := MapAt.made (w.alloc (.map #[] 0))
  rw [size_alloc] at m1
  refine ⟨by rw [cell_of_row _ _ _ _ _ _ hN, h16], by rw [cell_of_row _ _ _ _ _ _ hN, h17], ((MapAt.made w).block h0).congr (fun s => (fK_none (fun _ _ => rfl) s).symm), fun _ => none, (m1.block h1).congr (fun s => by simp [fM]), fun i _ _ => ⟨fun _ _ _ => rfl, fun b hb => (by cases hb)⟩, fun b hb => (by cases hb)⟩

set_option maxRecDepth 100000 in
set_option maxHeartbeats 1000000 in
theorem script_walk (S : Nat → Stp) (a0 : Option Addr) (n cap : Nat) (w : World) (hS : ∀ i, i < n → StpOk (S i))
    (hrow : 0 < n → ∃ pb po, a0 = some ⟨pb, po, none⟩ ∧ pb < w.heap.size ∧ ∀ k, k < n → StepAt w pb (po + k * 5) (S k)) :
    Calls Yba.prog 8 #[.slice a0 n cap] w fun e w' => e = .returned (.bool true) ∧ Below w.heap.size w w' := by
  have HROW := hidden hrow
  have HS := hidden hS
  clear hrow hS
  by_cases hn : 1024 < n
  · have hnI : (1024 : Int) < (n : Int) := by omega
    go_enter Yba.func8, Yba.ntmps8
    go_wp2
    go_ret
    exact ⟨rfl, Below.refl _ _⟩
  · have hnI : ¬ (1024 : Int) < (n : Int) := by omega
    have hmm := @run_makeMap Yba.prog
    go_enter Yba.func8, Yba.ntmps8
    go_wp2
    go_loopw [26] (fun i wr => ∃ k : Nat, k ≤ n ∧ i = .int .i64 k ∧ NodeInv w.heap.size wr (2 * k) (st S k) ∧ Below w.heap.size w wr) (fun i _ => n - (intOf i).toNat)
    case atStart => exact ⟨0, by omega, rfl, start_inv w _ S rfl rfl, ((((Below.refl _ _).alloc (Nat.le_refl _) _).alloc (by simp) _).alloc (by simp; omega) _)⟩
    case round =>
      obtain ⟨k, hk, rfl, hinv, hnx⟩ := hrel
      by_cases hlt : k < n
      · obtain ⟨pb, po, ha0, hpb, hpc⟩ := HROW.out (by omega)
        subst ha0
        have hst := (hpc k hlt).below hnx hpb
        have hok := HS.out k hlt
        obtain ⟨s, hs⟩ : ∃ s, Hid (s = S k) := ⟨_, rfl⟩
        rw [← hs.out] at hst hok
        obtain ⟨c0, c1, c2, c3, c4⟩ := hst
        obtain ⟨o0, o1, n0, n1, k0, k1⟩ := hok
        obtain ⟨op, net, key, ver, set⟩ := s
        dsimp only at c0 c1 c2 c3 c4 o0 o1 n0 n1 k0 k1
        have hI : (k : Int) < (n : Int) := by omega
        have HN := hidden hinv
        have hsz := hnx.size
        clear hinv hpc
        have hij : Hid ((S k).i = (net % 3).toNat ∧ (S k).j = (key % 3).toNat) := by rw [← hs.out]; exact ⟨rfl, rfl⟩
        by_cases hop : op % 2 = 0
        · have hopB : (op % 2 == 0) = true := by simp [hop]
          have ho : Hid ((S k).o = some (ver, set)) := by rw [← hs.out]; exact if_pos hop
          clear hop
          go_wp2_with (first
            | (go_at_call 13; refine (name_any net key _ n0 n1 k0 k1).mono ?_; rintro e w1 ⟨rfl, hb1⟩; have d0 := box_cell hb1 0 _ rfl; have d3 := box_cell hb1 3 _ rfl; have d4 := box_cell hb1 4 _ rfl; have z1 := box_size hb1; have HB := box_below hb1; clear hb1)
            | (go_at_call 14; refine (keep_any w.heap.size _ (2 * k) (st S k) (net % 3).toNat (key % 3).toNat (ver, set) (HN.out.later (HB.alloc (by omega) _)) (by omega) (by omega) (by omega)).mono ?_; rintro e w2 ⟨rfl, hinv2, hbel2⟩))
          go_roundw
          case rel => exact ⟨k + 1, by omega, by go_num, step_inv hinv2 hij.out.1 hij.out.2 ho.out, (hnx.trans (HB.mono hsz)).trans (((Below.refl _ _).alloc (by omega) _).trans hbel2)⟩
          case measure => simp [intOf]; omega
        · have hopB : (op % 2 == 0) = false := by simp [hop]
          have ho : Hid ((S k).o = none) := by rw [← hs.out]; exact if_neg hop
          clear hop
          go_wp2_with (first
            | (go_at_call 13; refine (name_any net key _ n0 n1 k0 k1).mono ?_; rintro e w1 ⟨rfl, hb1⟩; have d0 := box_cell hb1 0 _ rfl; have z1 := box_size hb1; have HB := box_below hb1; clear hb1)
            | (go_at_call 15; refine (drop_any w.heap.size _ (2 * k) (st S k) (net % 3).toNat (key % 3).toNat (HN.out.later (HB.alloc (by omega) _)) (by omega) (by omega)).mono ?_; rintro e w2 ⟨rfl, hinv2, hbel2⟩))
          go_roundw
          case rel => exact ⟨k + 1, by omega, by go_num, step_inv (hinv2.mono (by omega)) hij.out.1 hij.out.2 ho.out, (hnx.trans (HB.mono hsz)).trans (((Below.refl _ _).alloc (by omega) _).trans hbel2)⟩
          case measure => simp [intOf]; omega
      · obtain rfl : k = n := by omega
        have HN := hidden hinv
        clear hinv hnI
        go_wp2
        go_loopw [7] (fun v w1 => ∃ i : Nat, i ≤ 3 ∧ v = .int .i64 i ∧ NodeInv w.heap.size w1 (2 * k) (st S k) ∧ Below w.heap.size w w1) (fun v _ => 3 - (intOf v).toNat)
        case atStart => exact ⟨0, by omega, rfl, HN.out, hnx⟩
        case round =>
          clear HN hnx
          obtain ⟨i, hi3, rfl, hinv, hnx⟩ := hrel
          by_cases hi : i < 3
          · have HN := hidden hinv
            clear hinv
            have hiB : decide ((i : Int) < 3) = true := by simp; omega
            go_wp2
            go_loopw [8] (fun v w1 => ∃ j : Nat, j ≤ 3 ∧ v = .int .i64 j ∧ NodeInv w.heap.size w1 (2 * k) (st S k) ∧ Below w.heap.size w w1) (fun v _ => 3 - (intOf v).toNat)
            case atStart => exact ⟨0, by omega, rfl, HN.out, hnx⟩
            case round =>
              clear HN hnx
              obtain ⟨j, hj3, rfl, hinv, hnx⟩ := hrel
              by_cases hj : j < 3
              · have HN := hidden hinv
                have hsz := hnx.size
                have hjB : decide ((j : Int) < 3) = true := by simp; omega
                clear hinv
                cases hO : st S k i j with
                | none =>
                  have HO := hidden hO
                  clear hO
                  go_wp2_with (first
                    | (go_at_call 13; refine (name_ij i j _ hi hj).mono ?_; rintro e w1 ⟨rfl, hb1⟩; have z1 := hb1.size)
                    | (go_at_call 16; refine (copy_none_ij HO.out (HN.out.later (hb1.alloc (by omega) _)) hi hj).mono ?_; rintro e w2 ⟨rfl, hb2⟩))
                  have HW := hidden (got_below (v := 0) (b := false) hnx hb1 hb2)
                  have HE0 := hidden (got_name (v := 0) (b := false) hb2 0 _ rfl)
                  have HE1 := hidden (got_name (v := 0) (b := false) hb2 1 _ rfl)
                  have hz2 := name_size hb2
                  have HNG := hidden (HN.out.later (got_later (v := 0) (b := false) hb1 hb2))
                  have hlk := HN.out.lt
                  clear HN hnx hb1 hb2
                  go_loopw [12, 13, 14, 15] (fun v12 v13 v14 v15 w3 => ∃ m : Nat, m ≤ k ∧ v12 = .bool false ∧ v13 = .int .u64 0 ∧ v14 = .bool false ∧ v15 = .int .i64 ((m : Int) - 1) ∧ Hid (st S m i j = none) ∧ Below (w2.heap.size + 1) (gotBox w2 0 false) w3) (fun _ _ _ v15 _ => (intOf v15 + 1).toNat)
                  case atStart => exact ⟨k, by omega, rfl, rfl, rfl, rfl, HO.out, Below.refl _ _⟩
                  case round =>
                    obtain ⟨m, hm, rfl, rfl, rfl, rfl, HM, hnx3⟩ := hrel
                    obtain ⟨w3, hw3⟩ : ∃ w3 : World, Hid (w3 = wr) := ⟨_, rfl⟩
                    rw [← hw3.out] at hnx3 ⊢
                    clear hw3
                    have hz3 : w2.heap.size + 1 ≤ w3.heap.size := by have := hnx3.size; rw [size_alloc] at this; exact this
                    have e0 : w3.cell? ⟨w1.heap.size, 0, none⟩ = some (.string (netS i)) := (hnx3.cell (p := ⟨w1.heap.size, 0, none⟩) (by show w1.heap.size < _; omega)).trans HE0.out
                    have e1 : w3.cell? ⟨w1.heap.size, 1, none⟩ = some (.string (keyS j)) := (hnx3.cell (p := ⟨w1.heap.size, 1, none⟩) (by show w1.heap.size < _; omega)).trans HE1.out
                    have g0 : w3.cell? ⟨w2.heap.size, 0, none⟩ = some (.slice none 0 0) := (hnx3.cell (p := ⟨w2.heap.size, 0, none⟩) (Nat.lt_succ_self _)).trans (got_cell _ _ _ 0 _ rfl)
                    have g1 : w3.cell? ⟨w2.heap.size, 1, none⟩ = some (.int .u64 0) := (hnx3.cell (p := ⟨w2.heap.size, 1, none⟩) (Nat.lt_succ_self _)).trans (got_cell _ _ _ 1 _ rfl)
                    have g2 : w3.cell? ⟨w2.heap.size, 2, none⟩ = some (.bool false) := (hnx3.cell (p := ⟨w2.heap.size, 2, none⟩) (Nat.lt_succ_self _)).trans (got_cell _ _ _ 2 _ rfl)
                    have g6 : w3.cell? ⟨w2.heap.size, 6, none⟩ = some (.bool false) := (hnx3.cell (p := ⟨w2.heap.size, 6, none⟩) (Nat.lt_succ_self _)).trans (got_cell _ _ _ 6 _ rfl)
                    have hBw : Below w.heap.size w w3 := HW.out.trans (hnx3.mono (by omega))
                    have HB3 := hidden hnx3
                    have HNB := hidden (HNG.out.later (hnx3.mono (by simp)))
                    clear hnx3
                    by_cases hm0 : 0 < m
                    · obtain ⟨m, rfl⟩ : ∃ m', m = m' + 1 := ⟨m - 1, by omega⟩
                      rw [show (((m + 1 : Nat) : Int) - 1) = (m : Int) by omega]
                      obtain ⟨pb, po, ha0, hpb, hpc⟩ := HROW.out (by omega)
                      subst ha0
                      have hst := (hpc m (by omega)).below hBw hpb
                      have hok := HS.out m (by omega)
                      obtain ⟨s, hs⟩ : ∃ s, Hid (s = S m) := ⟨_, rfl⟩
                      rw [← hs.out] at hst hok
                      obtain ⟨c0, c1, c2, c3, c4⟩ := hst
                      obtain ⟨o0, o1, n0, n1, k0, k1⟩ := hok
                      obtain ⟨op, net, key, ver, set⟩ := s
                      dsimp only at c0 c1 c2 c3 c4 o0 o1 n0 n1 k0 k1
                      have hI : (m : Int) < (k : Int) := by omega
                      have hij : Hid ((S m).i = (net % 3).toNat ∧ (S m).j = (key % 3).toNat) := by rw [← hs.out]; exact ⟨rfl, rfl⟩
                      clear hpc
                      by_cases hmat : (net % 3).toNat = i ∧ (key % 3).toNat = j
                      · have hneq : ∀ w : World, (binOp .neq 82 (nameV (net % 3).toNat (key % 3).toNat) (nameV i j)).run Yba.prog w = .ok (.bool false) w := fun w => by
                          rw [neq82 (by omega) (by omega) hi hj w]; simp [hmat]
                        have hop : ¬ op % 2 = 0 := fun e => by
                          have h1 := st_same (S := S) (k := m) (hij.out.1.trans hmat.1) (hij.out.2.trans hmat.2)
                          rw [HM.out, ← hs.out] at h1
                          simp [Stp.o, e] at h1
                        have hopB : (op % 2 == 0) = false := by simp [hop]
                        clear hop hmat
                        go_wp2
                        go_region_held3 (fun w' => w'.cell? ⟨w3.heap.size, 1, none⟩ = some (.int .u8 net) ∧ w'.cell? ⟨w3.heap.size, 2, none⟩ = some (.int .u8 key) ∧ w'.cell? ⟨w1.heap.size, 0, none⟩ = some (.string (netS i)) ∧ w'.cell? ⟨w1.heap.size, 1, none⟩ = some (.string (keyS j))) (go_keep) (first | (go_at_call 13; refine (name_any net key _ n0 n1 k0 k1).mono ?_; rintro e w4 ⟨rfl, hb4⟩; have hb5 := undrew hb4; have f0 := box_cell hb5 0 _ rfl; have f1 := box_cell hb5 1 _ rfl; have f2 := box_cell hb5 2 _ rfl; have f5 := box_cell hb5 3 _ rfl; have f6 := box_cell hb5 4 _ rfl; have f3 := (box_below hb5).cell (p := ⟨w1.heap.size, 0, none⟩) (by show w1.heap.size < _; omega); have f4 := (box_below hb5).cell (p := ⟨w1.heap.size, 1, none⟩) (by show w1.heap.size < _; omega); have z5 := box_size hb5; have HB5 := box_below hb5; clear hb4 hb5))
                        have q0 : w4.cell? ⟨w2.heap.size, 0, none⟩ = some (.slice none 0 0) := (HB5.cell (p := ⟨w2.heap.size, 0, none⟩) (by show w2.heap.size < _; omega)).trans g0
                        have q1 : w4.cell? ⟨w2.heap.size, 1, none⟩ = some (.int .u64 0) := (HB5.cell (p := ⟨w2.heap.size, 1, none⟩) (by show w2.heap.size < _; omega)).trans g1
                        have q2 : w4.cell? ⟨w2.heap.size, 2, none⟩ = some (.bool false) := (HB5.cell (p := ⟨w2.heap.size, 2, none⟩) (by show w2.heap.size < _; omega)).trans g2
                        have q6 : w4.cell? ⟨w2.heap.size, 6, none⟩ = some (.bool false) := (HB5.cell (p := ⟨w2.heap.size, 6, none⟩) (by show w2.heap.size < _; omega)).trans g6
                        go_wp2
                        go_roundw
                        case rel => exact ⟨j + 1, by omega, by go_num, HNB.out.later HB5, hBw.trans (HB5.mono (by omega))⟩
                        case measure => simp [intOf]; omega
                      · have hneq : ∀ w : World, (binOp .neq 82 (nameV (net % 3).toNat (key % 3).toNat) (nameV i j)).run Yba.prog w = .ok (.bool true) w := fun w => by
                          rw [neq82 (by omega) (by omega) hi hj w]; simp; omega
                        have HM2 : Hid (st S m i j = none) := by
                          rw [← st_other (S := S) (k := m) (fun e => hmat ⟨hij.out.1.symm.trans e.1, hij.out.2.symm.trans e.2⟩)]; exact HM
                        clear hmat
                        go_wp2
                        go_region_held3 (fun w' => w'.cell? ⟨w3.heap.size, 1, none⟩ = some (.int .u8 net) ∧ w'.cell? ⟨w3.heap.size, 2, none⟩ = some (.int .u8 key) ∧ w'.cell? ⟨w1.heap.size, 0, none⟩ = some (.string (netS i)) ∧ w'.cell? ⟨w1.heap.size, 1, none⟩ = some (.string (keyS j))) (go_keep) (first | (go_at_call 13; refine (name_any net key _ n0 n1 k0 k1).mono ?_; rintro e w4 ⟨rfl, hb4⟩; have hb5 := undrew hb4; have f0 := box_cell hb5 0 _ rfl; have f1 := box_cell hb5 1 _ rfl; have f2 := box_cell hb5 2 _ rfl; have f5 := box_cell hb5 3 _ rfl; have f6 := box_cell hb5 4 _ rfl; have f3 := (box_below hb5).cell (p := ⟨w1.heap.size, 0, none⟩) (by show w1.heap.size < _; omega); have f4 := (box_below hb5).cell (p := ⟨w1.heap.size, 1, none⟩) (by show w1.heap.size < _; omega); have z5 := box_size hb5; have HB5 := box_below hb5; clear hb4 hb5))
                        go_wp2
                        go_roundw
                        case rel => exact ⟨m, by omega, rfl, rfl, rfl, rfl, HM2, HB3.out.trans (HB5.mono (by omega))⟩
                        case measure => simp [intOf]
                    · go_wp2
                      go_roundw
                      case rel => exact ⟨j + 1, by omega, by go_num, HNB.out, hBw⟩
                      case measure => simp [intOf]; omega
                | some O =>
                  obtain ⟨v, b⟩ := O
                  have HO := hidden hO
                  clear hO
                  have hvv : (v != v) = false := by simp
                  have hbb : (b != b) = false := by simp
                  go_wp2_with (first
                    | (go_at_call 13; refine (name_ij i j _ hi hj).mono ?_; rintro e w1 ⟨rfl, hb1⟩; have z1 := hb1.size)
                    | (go_at_call 16; refine (copy_some_ij HO.out (HN.out.later (hb1.alloc (by omega) _)) hi hj).mono ?_; rintro e w2 ⟨rfl, hb2⟩))
                  have HW := hidden (got_below (v := v) (b := b) hnx hb1 hb2)
                  have HE0 := hidden (got_name (v := v) (b := b) hb2 0 _ rfl)
                  have HE1 := hidden (got_name (v := v) (b := b) hb2 1 _ rfl)
                  have hz2 := name_size hb2
                  have HNG := hidden (HN.out.later (got_later (v := v) (b := b) hb1 hb2))
                  have hlk := HN.out.lt
                  clear HN hnx hb1 hb2
                  go_loopw [12, 13, 14, 15] (fun v12 v13 v14 v15 w3 => ∃ m : Nat, m ≤ k ∧ v12 = .bool false ∧ v13 = .int .u64 0 ∧ v14 = .bool false ∧ v15 = .int .i64 ((m : Int) - 1) ∧ Hid (st S m i j = some (v, b)) ∧ Below (w2.heap.size + 1) (gotBox w2 v b) w3) (fun _ _ _ v15 _ => (intOf v15 + 1).toNat)
                  case atStart => exact ⟨k, by omega, rfl, rfl, rfl, rfl, HO.out, Below.refl _ _⟩
                  case round =>
                    obtain ⟨m, hm, rfl, rfl, rfl, rfl, HM, hnx3⟩ := hrel
                    obtain ⟨w3, hw3⟩ : ∃ w3 : World, Hid (w3 = wr) := ⟨_, rfl⟩
                    rw [← hw3.out] at hnx3 ⊢
                    clear hw3
                    have hz3 : w2.heap.size + 1 ≤ w3.heap.size := by have := hnx3.size; rw [size_alloc] at this; exact this
                    have e0 : w3.cell? ⟨w1.heap.size, 0, none⟩ = some (.string (netS i)) := (hnx3.cell (p := ⟨w1.heap.size, 0, none⟩) (by show w1.heap.size < _; omega)).trans HE0.out
                    have e1 : w3.cell? ⟨w1.heap.size, 1, none⟩ = some (.string (keyS j)) := (hnx3.cell (p := ⟨w1.heap.size, 1, none⟩) (by show w1.heap.size < _; omega)).trans HE1.out
                    have g0 : w3.cell? ⟨w2.heap.size, 0, none⟩ = some (.slice none 0 0) := (hnx3.cell (p := ⟨w2.heap.size, 0, none⟩) (Nat.lt_succ_self _)).trans (got_cell _ _ _ 0 _ rfl)
                    have g1 : w3.cell? ⟨w2.heap.size, 1, none⟩ = some (.int .u64 v) := (hnx3.cell (p := ⟨w2.heap.size, 1, none⟩) (Nat.lt_succ_self _)).trans (got_cell _ _ _ 1 _ rfl)
                    have g2 : w3.cell? ⟨w2.heap.size, 2, none⟩ = some (.bool b) := (hnx3.cell (p := ⟨w2.heap.size, 2, none⟩) (Nat.lt_succ_self _)).trans (got_cell _ _ _ 2 _ rfl)
                    have g6 : w3.cell? ⟨w2.heap.size, 6, none⟩ = some (.bool false) := (hnx3.cell (p := ⟨w2.heap.size, 6, none⟩) (Nat.lt_succ_self _)).trans (got_cell _ _ _ 6 _ rfl)
                    have hBw : Below w.heap.size w w3 := HW.out.trans (hnx3.mono (by omega))
                    have HB3 := hidden hnx3
                    have HNB := hidden (HNG.out.later (hnx3.mono (by simp)))
                    clear hnx3
                    by_cases hm0 : 0 < m
                    · obtain ⟨m, rfl⟩ : ∃ m', m = m' + 1 := ⟨m - 1, by omega⟩
                      rw [show (((m + 1 : Nat) : Int) - 1) = (m : Int) by omega]
                      obtain ⟨pb, po, ha0, hpb, hpc⟩ := HROW.out (by omega)
                      subst ha0
                      have hst := (hpc m (by omega)).below hBw hpb
                      have hok := HS.out m (by omega)
                      obtain ⟨s, hs⟩ : ∃ s, Hid (s = S m) := ⟨_, rfl⟩
                      rw [← hs.out] at hst hok
                      obtain ⟨c0, c1, c2, c3, c4⟩ := hst
                      obtain ⟨o0, o1, n0, n1, k0, k1⟩ := hok
                      obtain ⟨op, net, key, ver, set⟩ := s
                      dsimp only at c0 c1 c2 c3 c4 o0 o1 n0 n1 k0 k1
                      have hI : (m : Int) < (k : Int) := by omega
                      have hij : Hid ((S m).i = (net % 3).toNat ∧ (S m).j = (key % 3).toNat) := by rw [← hs.out]; exact ⟨rfl, rfl⟩
                      clear hpc
                      by_cases hmat : (net % 3).toNat = i ∧ (key % 3).toNat = j
                      · have hneq : ∀ w : World, (binOp .neq 82 (nameV (net % 3).toNat (key % 3).toNat) (nameV i j)).run Yba.prog w = .ok (.bool false) w := fun w => by
                          rw [neq82 (by omega) (by omega) hi hj w]; simp [hmat]
                        have hoe : op % 2 = 0 ∧ v = ver ∧ b = set := by
                          have h1 := st_same (S := S) (k := m) (hij.out.1.trans hmat.1) (hij.out.2.trans hmat.2)
                          rw [HM.out, ← hs.out] at h1
                          exact stp_o h1
                        obtain ⟨hop, rfl, rfl⟩ := hoe
                        have hopB : (op % 2 == 0) = true := by simp [hop]
                        clear hop hmat
                        go_wp2
                        go_region_held3 (fun w' => w'.cell? ⟨w3.heap.size, 1, none⟩ = some (.int .u8 net) ∧ w'.cell? ⟨w3.heap.size, 2, none⟩ = some (.int .u8 key) ∧ w'.cell? ⟨w1.heap.size, 0, none⟩ = some (.string (netS i)) ∧ w'.cell? ⟨w1.heap.size, 1, none⟩ = some (.string (keyS j))) (go_keep) (first | (go_at_call 13; refine (name_any net key _ n0 n1 k0 k1).mono ?_; rintro e w4 ⟨rfl, hb4⟩; have hb5 := undrew hb4; have f0 := box_cell hb5 0 _ rfl; have f1 := box_cell hb5 1 _ rfl; have f2 := box_cell hb5 2 _ rfl; have f5 := box_cell hb5 3 _ rfl; have f6 := box_cell hb5 4 _ rfl; have f3 := (box_below hb5).cell (p := ⟨w1.heap.size, 0, none⟩) (by show w1.heap.size < _; omega); have f4 := (box_below hb5).cell (p := ⟨w1.heap.size, 1, none⟩) (by show w1.heap.size < _; omega); have z5 := box_size hb5; have HB5 := box_below hb5; clear hb4 hb5))
                        have q0 : w4.cell? ⟨w2.heap.size, 0, none⟩ = some (.slice none 0 0) := (HB5.cell (p := ⟨w2.heap.size, 0, none⟩) (by show w2.heap.size < _; omega)).trans g0
                        have q1 : w4.cell? ⟨w2.heap.size, 1, none⟩ = some (.int .u64 v) := (HB5.cell (p := ⟨w2.heap.size, 1, none⟩) (by show w2.heap.size < _; omega)).trans g1
                        have q2 : w4.cell? ⟨w2.heap.size, 2, none⟩ = some (.bool b) := (HB5.cell (p := ⟨w2.heap.size, 2, none⟩) (by show w2.heap.size < _; omega)).trans g2
                        have q6 : w4.cell? ⟨w2.heap.size, 6, none⟩ = some (.bool false) := (HB5.cell (p := ⟨w2.heap.size, 6, none⟩) (by show w2.heap.size < _; omega)).trans g6
                        go_wp2
                        go_roundw
                        case rel => exact ⟨j + 1, by omega, by go_num, HNB.out.later HB5, hBw.trans (HB5.mono (by omega))⟩
                        case measure => simp [intOf]; omega
                      · have hneq : ∀ w : World, (binOp .neq 82 (nameV (net % 3).toNat (key % 3).toNat) (nameV i j)).run Yba.prog w = .ok (.bool true) w := fun w => by
                          rw [neq82 (by omega) (by omega) hi hj w]; simp; omega
                        have HM2 : Hid (st S m i j = some (v, b)) := by
                          rw [← st_other (S := S) (k := m) (fun e => hmat ⟨hij.out.1.symm.trans e.1, hij.out.2.symm.trans e.2⟩)]; exact HM
                        clear hmat
                        go_wp2
                        go_region_held3 (fun w' => w'.cell? ⟨w3.heap.size, 1, none⟩ = some (.int .u8 net) ∧ w'.cell? ⟨w3.heap.size, 2, none⟩ = some (.int .u8 key) ∧ w'.cell? ⟨w1.heap.size, 0, none⟩ = some (.string (netS i)) ∧ w'.cell? ⟨w1.heap.size, 1, none⟩ = some (.string (keyS j))) (go_keep) (first | (go_at_call 13; refine (name_any net key _ n0 n1 k0 k1).mono ?_; rintro e w4 ⟨rfl, hb4⟩; have hb5 := undrew hb4; have f0 := box_cell hb5 0 _ rfl; have f1 := box_cell hb5 1 _ rfl; have f2 := box_cell hb5 2 _ rfl; have f5 := box_cell hb5 3 _ rfl; have f6 := box_cell hb5 4 _ rfl; have f3 := (box_below hb5).cell (p := ⟨w1.heap.size, 0, none⟩) (by show w1.heap.size < _; omega); have f4 := (box_below hb5).cell (p := ⟨w1.heap.size, 1, none⟩) (by show w1.heap.size < _; omega); have z5 := box_size hb5; have HB5 := box_below hb5; clear hb4 hb5))
                        go_wp2
                        go_roundw
                        case rel => exact ⟨m, by omega, rfl, rfl, rfl, rfl, HM2, HB3.out.trans (HB5.mono (by omega))⟩
                        case measure => simp [intOf]
                    · obtain rfl : m = 0 := by omega
                      exact absurd HM.out (by simp [st])
              · obtain rfl : j = 3 := by omega
                have HN := hidden hinv
                clear hinv
                go_wp2
                go_roundw
                case rel => exact ⟨i + 1, by omega, by go_num, HN.out, hnx⟩
                case measure => simp [intOf]; omega
          · clear hinv
            go_wp2
            go_ret
            exact ⟨rfl, hnx⟩

end C
end Go.Proofs.Ybulkavii
