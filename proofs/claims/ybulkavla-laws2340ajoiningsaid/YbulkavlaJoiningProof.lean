/-
  Seat b2340a: 'Rows.LawS2340AJoiningSaid', proved.
-/
import Derived.Test.YbulkavlaRows
import Derived.Test.YbulkavlaWalk
import Derived.WalkKit
import Derived.ProofKit
import Derived.OpenShut
import Derived.ShutString
import Derived.ChangeOld
import Derived.Below
import Derived.Deep.Slices
import Derived.Deep.MidRow
namespace Go.Proofs.Ybulkavla.lawS2340AJoining
open Go.ChangeShapes Go.WideShapes Go.ChangeAt Go.RowKit
set_option linter.unusedVariables false

theorem own : ownKnob Yba.prog.godebug = none := by kernel_rfl
theorem laidOut : laidOutB Yba.prog = true := by kernel_rfl
theorem cells5 : Yba.prog.cellsOf 5 = 1 := by kernel_rfl
theorem cells4 : Yba.prog.cellsOf 4 = 1 := by kernel_rfl
theorem cells26 : Yba.prog.cellsOf 26 = 1 := by kernel_rfl
theorem cells28 : Yba.prog.cellsOf 28 = 3 := by kernel_rfl

theorem u8_range {z : Int} (h : (Lit.int .u8 z).wf = true) : 0 ≤ z ∧ z ≤ 255 := by
  have h1 : IntKind.u8.min = 0 := by decide
  have h2 : IntKind.u8.max = 255 := by decide
  simp only [Lit.wf, Bool.and_eq_true, decide_eq_true_eq, h1, h2] at h
  omega
theorem u16_range {z : Int} (h : (Lit.int .u16 z).wf = true) : 0 ≤ z ∧ z ≤ 65535 := by
  have h1 : IntKind.u16.min = 0 := by decide
  have h2 : IntKind.u16.max = 65535 := by decide
  simp only [Lit.wf, Bool.and_eq_true, decide_eq_true_eq, h1, h2] at h
  omega

theorem three {α : Type} (l : List α) (h : l.length = 3) : ∃ a b c, l = [a, b, c] := by
  match l, h with
  | [a, b, c], _ => exact ⟨a, b, c, rfl⟩

structure Stp where
  pc : Int
  rc : Bool
  fc : Int

/-- One step's cells. -/
theorem open_step {H : Type} {enc : TypeId × Value → H} {W : World} {base fuel : Nat} {sp : Nat → Bool} {held : Bool} {cs : List Value} {x : DataW H × List MemPlace} (h : DataW.trod enc Yba.prog W base sp held fuel 28 cs = some x) :
    ∃ s : Stp, cs = [.int .u8 s.pc, .bool s.rc, .int .u16 s.fc] ∧ (0 ≤ s.pc ∧ s.pc ≤ 255) ∧ 0 ≤ s.fc ∧ s.fc ≤ 65535 := by
  obtain ⟨xs, n, _, _, hl, hlen, hf⟩ := DataW.trod_struct Yba.underlying28 h
  rw [cells28] at hl
  obtain ⟨c0, c1, c2, rfl⟩ := three cs hl
  obtain ⟨y0, y1, y2, rfl⟩ := three xs hlen
  have h0 : DataW.trod enc Yba.prog W base sp held n 5 (([c0, c1, c2].drop 0).take (Yba.prog.cellsOf 5)) = some y0 := hf 0 _ rfl
  have h1 : DataW.trod enc Yba.prog W base sp held n 4 (([c0, c1, c2].drop 1).take (Yba.prog.cellsOf 4)) = some y1 := hf 1 _ rfl
  have h2 : DataW.trod enc Yba.prog W base sp held n 26 (([c0, c1, c2].drop 2).take (Yba.prog.cellsOf 26)) = some y2 := hf 2 _ rfl
  rw [cells5] at h0
  rw [cells4] at h1
  rw [cells26] at h2
  obtain ⟨a0, e0, _, w0⟩ := DataW.trod_int Yba.underlying5 h0
  obtain ⟨a1, e1, _⟩ := DataW.trod_bool Yba.underlying4 h1
  obtain ⟨a2, e2, _, w2⟩ := DataW.trod_int Yba.underlying26 h2
  simp at e0 e1 e2
  subst e0 e1 e2
  exact ⟨⟨a0, a1, a2⟩, rfl, u8_range w0, u16_range w2⟩

/-- WHAT THE WALK IS TOLD OF A SLICE OF STEPS. -/
theorem open_steps {H : Type} {enc : TypeId × Value → H} {W : World} {a : Option Addr} {len cap : Nat} {d : DataW H} {p : List MemPlace} (h : DataW.Trod enc Yba.prog W 0 (fun _ => true) true 22 (.slice a len cap) d p) :
    ∃ (pc : Nat → Int) (rc : Nat → Bool) (fc : Nat → Int), (∀ i, 0 ≤ pc i ∧ pc i ≤ 255) ∧ (∀ i, 0 ≤ fc i ∧ fc i ≤ 65535) ∧ (0 < len → ∃ pb po, a = some ⟨pb, po, none⟩ ∧ pb < W.heap.size ∧
      ∀ j, j < len → W.cell? ⟨pb, po + j * 3, none⟩ = some (.int .u8 (pc j)) ∧ W.cell? ⟨pb, po + j * 3 + 1, none⟩ = some (.bool (rc j)) ∧ W.cell? ⟨pb, po + j * 3 + 2, none⟩ = some (.int .u16 (fc j))) := by
  obtain ⟨fuel, hf⟩ := h
  rcases Deep.open_slice Yba.underlying22 hf with ⟨hcs, _⟩ | ⟨x, l, c, m, n, D, Pl, hcs, _, hl, _, hm, _, hel⟩
  · simp [Value.cells] at hcs
    obtain ⟨rfl, rfl, rfl⟩ := hcs
    exact ⟨fun _ => 0, fun _ => false, fun _ => 0, fun i => ⟨Int.le_refl _, (by decide : (0 : Int) ≤ 255)⟩, fun i => ⟨Int.le_refl _, (by decide : (0 : Int) ≤ 65535)⟩, fun h => absurd h (by omega)⟩
  · simp [Value.cells] at hcs
    obtain ⟨rfl, rfl, rfl⟩ := hcs
    simp only [if_true] at hm
    subst hm
    rw [cells28] at hel
    have key : ∀ i, ∃ s : Stp, ((0 ≤ s.pc ∧ s.pc ≤ 255) ∧ 0 ≤ s.fc ∧ s.fc ≤ 65535) ∧ (i < len → ∀ j v, ([.int .u8 s.pc, .bool s.rc, .int .u16 s.fc] : List Value)[j]? = some v → W.cell? ((x.add (i * 3)).add j) = some v) := fun i => by
      by_cases hi : i < len
      · obtain ⟨cs', h1, h2⟩ := hel i (by omega)
        obtain ⟨_, hlen, hc⟩ := World.cells?_some h1
        obtain ⟨s, he, hok⟩ := open_step h2
        refine ⟨s, hok, fun _ j v hv => ?_⟩
        have hj : j < 3 := by
          have := (List.getElem?_eq_some_iff.1 hv).1
          simpa using this
        rw [hc j hj, he, hv]
      · exact ⟨⟨0, false, 0⟩, ⟨⟨Int.le_refl _, by decide⟩, Int.le_refl _, by decide⟩, fun h => absurd h hi⟩
    obtain ⟨F, hF⟩ := Classical.skolem.1 key
    refine ⟨fun i => (F i).pc, fun i => (F i).rc, fun i => (F i).fc, fun i => (hF i).1.1, fun i => (hF i).1.2, fun h0 => ?_⟩
    obtain ⟨b, o, sp⟩ := x
    have hv0 := (hF 0).2 h0 0 _ rfl
    have hv0' : W.cell? (⟨b, o, sp⟩ : Addr) = some (.int .u8 (F 0).pc) := by simpa [Addr.add] using hv0
    have hspot : sp = none := by simpa using World.cell?_spot hv0'
    subst hspot
    have hc : ∀ k, k < len → ∀ j v, ([.int .u8 (F k).pc, .bool (F k).rc, .int .u16 (F k).fc] : List Value)[j]? = some v → W.cell? ⟨b, o + k * 3 + j, none⟩ = some v := fun k hk j v hv => by
      have := (hF k).2 hk j v hv
      rw [Addr.add_mid, Addr.add_mid] at this
      exact this
    exact ⟨b, o, rfl, World.block_lt_of_cell? W _ hv0', fun k hk => ⟨hc k hk 0 _ rfl, hc k hk 1 _ rfl, hc k hk 2 _ rfl⟩⟩

set_option maxRecDepth 100000 in
theorem walk_long (a0 : Option Addr) (n cap : Nat) (a1 : Int) (w : World) (hn : 1024 < n) :
    Calls Yba.prog 3 #[.int .u8 a1, .slice a0 n cap] w fun e w' => e = .returned (.bool true) ∧ Below w.heap.size w w' := by
  have hnI : (1024 : Int) < (n : Int) := by omega
  go_enter Yba.func3, Yba.ntmps3
  go_wp2
  go_ret
  exact ⟨rfl, Below.refl _ _⟩

set_option maxRecDepth 100000 in
theorem lifted (os : Os) (started : os.Started) (H : Type) (enc : TypeId × Value → H) :
    ReturnsInHanded {} Yba.checked os 3 .any (Rows.lawS2340AJoiningSpec.pre6 enc Yba.prog Yba.f3 Rows.lawS2340AJoiningRow.domain false) (Rows.lawS2340AJoiningSpec.post enc Yba.prog Yba.f3 false true false false) := by
  refine returnsInHanded_of_change (C := Yba.checked) own started (by kernel_rfl) Yba.func3
    (ChangeSpec.witness6 (enc := enc) (C := Yba.checked) false ⟨#[], #[.int .u8 0, .slice none 0 0], []⟩ 8 (by kernel_rfl) (by kernel_rfl) (by kernel_rfl) (by kernel_rfl)) ?_
  intro W base args ds gs before hval0 hW hcnd _
  have hval : ∀ (j : Nat) t v, Yba.f3.params[j]? = some t → args[j]? = some v → Value.okWide Yba.prog W .any base t v := hval0
  have hW' := hW
  obtain ⟨p, q, hA0, hV, rfl, hfz, hnd⟩ := hW
  have hA : DataW.TrodAll enc Yba.prog W 0 (fun _ => true) true Yba.f3.params.toList args.toList ds p := hA0
  rw [Yba.params3] at hA hval
  obtain ⟨v0, vs0, d0, ds0, p0, q0, hargs, rfl, rfl, h0, r0⟩ := trodAll_cons hA
  obtain ⟨v1, vs1, d1, ds1, p1, q1, rfl, rfl, rfl, h1, r1⟩ := trodAll_cons r0
  obtain ⟨rfl, rfl, rfl⟩ := trodAll_nil r1
  obtain rfl : args = #[v0, v1] := by cases args; simp_all
  obtain ⟨rfl, rfl⟩ := trodVars_none hV
  obtain ⟨a0, rfl, rfl, rfl, w0⟩ := open_int Yba.underlying5 (hval 0 5 v0 rfl rfl) h0
  obtain ⟨a1, len1, cap1, rfl⟩ := okWide_slice Yba.underlying22 (hval 1 22 v1 rfl rfl)
  have k1 := h1
  have lt1 : ∀ x ∈ p1, x.block < W.heap.size := by obtain ⟨m, hm⟩ := k1; exact DataW.trod_lt m _ _ _ hm
  obtain ⟨pc, rc, fc, hpc, hfc, hrow⟩ := open_steps h1
  clear hA0 hval0
  have hw : Calls Yba.prog 3 #[.int .u8 a0, .slice a1 len1 cap1] W fun e w' => e = .returned (.bool true) ∧ Below W.heap.size W w' := by
    by_cases hn : len1 ≤ 1024
    · exact joining_walk a1 len1 cap1 a0 pc rc fc W hn (u8_range w0) hrow hpc hfc
    · exact walk_long a1 len1 cap1 a0 W (by omega)
  refine hw.mono fun e W' ⟨he, bel⟩ => ?_
  subst he
  exact ⟨_, rfl, _, _, _, [], _, [], hW', trodAll_mk1 (shut_bool Yba.underlying4 _), (trodAll_cons_mk (shut_int Yba.underlying5 w0) (trodAll_cons_mk (Below.trod laidOut (by kernel_rfl) (of_decide_eq_true (by kernel_rfl)) k1 bel lt1) trodAll_mk0)), rfl, bel.frame _, fun h => by cases h⟩

theorem over : Rows.lawS2340AJoiningRow.holds Yba.pinned (OpenSpec.ofChange Rows.lawS2340AJoiningSpec) :=
  OpenClaim.holds_of_wide 3 Yba.f3 rfl rfl rfl rfl rfl rfl rfl ⟨rfl, rfl, rfl, rfl, rfl⟩ rfl rfl rfl rfl rfl (by kernel_rfl) Yba.func3 (by kernel_rfl)
    (of_decide_eq_true (by kernel_rfl)) (by unfold Func.isWrapper; first | (rw [if_pos (by decide +kernel)]; kernel_rfl) | (rw [if_neg (by decide +kernel)]; exact ⟨rfl, rfl⟩))
    (fun os started H enc _ => lifted os started H enc)

/-- ████ THE STATEMENT ████ -/
theorem proved : Rows.LawS2340AJoiningSaid := over
end Go.Proofs.Ybulkavla.lawS2340AJoining
