/-
  Seat b2335a: 'Rows.LawS2335CScriptSaid', proved.
-/
import Derived.Test.YbulkaviiRows
import Derived.Test.YbulkaviiScript
import Derived.WalkKit
import Derived.ProofKit
import Derived.OpenShut
import Derived.ShutString
import Derived.ChangeOld
import Derived.Below
import Derived.Deep.Slices
import Derived.Deep.MidRow
namespace Go.Proofs.Ybulkavii.lawS2335CScript
open Go.ChangeShapes Go.WideShapes Go.ChangeAt Go.RowKit
open Go.ChangeMaps (open_string shut_string)
set_option linter.unusedVariables false

theorem own : ownKnob Yba.prog.godebug = none := by kernel_rfl
theorem laidOut : laidOutB Yba.prog = true := by kernel_rfl
theorem cells5 : Yba.prog.cellsOf 5 = 1 := by kernel_rfl
theorem cells4 : Yba.prog.cellsOf 4 = 1 := by kernel_rfl
theorem cells78 : Yba.prog.cellsOf 78 = 1 := by kernel_rfl
theorem cells80 : Yba.prog.cellsOf 80 = 5 := by kernel_rfl

theorem five {α : Type} (l : List α) (h : l.length = 5) : ∃ a b c d e, l = [a, b, c, d, e] := by
  match l, h with
  | [a, b, c, d, e], _ => exact ⟨a, b, c, d, e, rfl⟩

/-- One step's cells. -/
theorem open_step {H : Type} {enc : TypeId × Value → H} {W : World} {base fuel : Nat} {sp : Nat → Bool} {held : Bool} {cs : List Value} {x : DataW H × List MemPlace} (h : DataW.trod enc Yba.prog W base sp held fuel 80 cs = some x) :
    ∃ s : C.Stp, cs = [.int .u8 s.op, .int .u8 s.net, .int .u8 s.key, .int .u64 s.ver, .bool s.set] ∧ C.StpOk s := by
  obtain ⟨xs, n, _, _, hl, hlen, hf⟩ := DataW.trod_struct Yba.underlying80 h
  rw [cells80] at hl
  obtain ⟨c0, c1, c2, c3, c4, rfl⟩ := five cs hl
  obtain ⟨y0, y1, y2, y3, y4, rfl⟩ := five xs hlen
  have h0 : DataW.trod enc Yba.prog W base sp held n 5 (([c0, c1, c2, c3, c4].drop 0).take (Yba.prog.cellsOf 5)) = some y0 := hf 0 _ rfl
  have h1 : DataW.trod enc Yba.prog W base sp held n 5 (([c0, c1, c2, c3, c4].drop 1).take (Yba.prog.cellsOf 5)) = some y1 := hf 1 _ rfl
  have h2 : DataW.trod enc Yba.prog W base sp held n 5 (([c0, c1, c2, c3, c4].drop 2).take (Yba.prog.cellsOf 5)) = some y2 := hf 2 _ rfl
  have h3 : DataW.trod enc Yba.prog W base sp held n 78 (([c0, c1, c2, c3, c4].drop 3).take (Yba.prog.cellsOf 78)) = some y3 := hf 3 _ rfl
  have h4 : DataW.trod enc Yba.prog W base sp held n 4 (([c0, c1, c2, c3, c4].drop 4).take (Yba.prog.cellsOf 4)) = some y4 := hf 4 _ rfl
  rw [cells5] at h0 h1 h2
  rw [cells78] at h3
  rw [cells4] at h4
  obtain ⟨a0, e0, _, w0⟩ := DataW.trod_int Yba.underlying5 h0
  obtain ⟨a1, e1, _, w1⟩ := DataW.trod_int Yba.underlying5 h1
  obtain ⟨a2, e2, _, w2⟩ := DataW.trod_int Yba.underlying5 h2
  obtain ⟨a3, e3, _, w3⟩ := DataW.trod_int Yba.underlying78 h3
  obtain ⟨a4, e4, _⟩ := DataW.trod_bool Yba.underlying4 h4
  simp at e0 e1 e2 e3 e4
  subst e0 e1 e2 e3 e4
  have b0 := bounds_u8 w0
  have b1 := bounds_u8 w1
  have b2 := bounds_u8 w2
  exact ⟨⟨a0, a1, a2, a3, a4⟩, rfl, ⟨b0.1, b0.2, b1.1, b1.2, b2.1, b2.2⟩⟩

/-- WHAT THE WALK IS TOLD OF A SLICE OF STEPS. -/
theorem open_steps {H : Type} {enc : TypeId × Value → H} {W : World} {a : Option Addr} {len cap : Nat} {d : DataW H} {p : List MemPlace} (h : DataW.Trod enc Yba.prog W 0 (fun _ => true) true 49 (.slice a len cap) d p) :
    ∃ S : Nat → C.Stp, (∀ i, i < len → C.StpOk (S i)) ∧ (0 < len → ∃ pb po, a = some ⟨pb, po, none⟩ ∧ pb < W.heap.size ∧ ∀ k, k < len → C.StepAt W pb (po + k * 5) (S k)) := by
  obtain ⟨fuel, hf⟩ := h
  rcases Deep.open_slice Yba.underlying49 hf with ⟨hcs, _⟩ | ⟨x, l, c, m, n, D, Pl, hcs, _, hl, _, hm, _, hel⟩
  · simp [Value.cells] at hcs
    obtain ⟨rfl, rfl, rfl⟩ := hcs
    exact ⟨fun _ => ⟨0, 0, 0, 0, false⟩, fun i hi => absurd hi (by omega), fun h => absurd h (by omega)⟩
  · simp [Value.cells] at hcs
    obtain ⟨rfl, rfl, rfl⟩ := hcs
    simp only [if_true] at hm
    subst hm
    rw [cells80] at hel
    have key : ∀ i, i < len → ∃ s : C.Stp, C.StpOk s ∧ ∀ j v, ([.int .u8 s.op, .int .u8 s.net, .int .u8 s.key, .int .u64 s.ver, .bool s.set] : List Value)[j]? = some v → W.cell? ((x.add (i * 5)).add j) = some v := fun i hi => by
      obtain ⟨cs', h1, h2⟩ := hel i (by omega)
      obtain ⟨_, hlen, hc⟩ := World.cells?_some h1
      obtain ⟨s, he, hok⟩ := open_step h2
      refine ⟨s, hok, fun j v hv => ?_⟩
      have hj : j < 5 := by
        have := (List.getElem?_eq_some_iff.1 hv).1
        simpa using this
      rw [hc j hj, he, hv]
    have hin : Inhabited C.Stp := ⟨⟨0, 0, 0, 0, false⟩⟩
    obtain ⟨F, hF⟩ := Deep.choose_lt key
    refine ⟨F, fun i hi => (hF i hi).1, fun h0 => ?_⟩
    obtain ⟨b, o, sp⟩ := x
    have hv0 := (hF 0 h0).2 0 _ rfl
    have hv0' : W.cell? (⟨b, o, sp⟩ : Addr) = some (.int .u8 (F 0).op) := by simpa [Addr.add] using hv0
    have hspot : sp = none := by simpa using World.cell?_spot hv0'
    subst hspot
    have hc : ∀ k, k < len → ∀ j v, ([.int .u8 (F k).op, .int .u8 (F k).net, .int .u8 (F k).key, .int .u64 (F k).ver, .bool (F k).set] : List Value)[j]? = some v → W.cell? ⟨b, o + k * 5 + j, none⟩ = some v := fun k hk j v hv => by
      have := (hF k hk).2 j v hv
      rw [Addr.add_mid, Addr.add_mid] at this
      exact this
    exact ⟨b, o, rfl, World.block_lt_of_cell? W _ hv0', fun k hk => ⟨hc k hk 0 _ rfl, hc k hk 1 _ rfl, hc k hk 2 _ rfl, hc k hk 3 _ rfl, hc k hk 4 _ rfl⟩⟩

set_option maxRecDepth 100000 in
theorem lifted (os : Os) (started : os.Started) (H : Type) (enc : TypeId × Value → H) :
    ReturnsInHanded {} Yba.checked os 8 .any (Rows.lawS2335CScriptSpec.pre6 enc Yba.prog Yba.f8 Rows.lawS2335CScriptRow.domain false) (Rows.lawS2335CScriptSpec.post enc Yba.prog Yba.f8 false true false false) := by
  refine returnsInHanded_of_change (C := Yba.checked) own started (by kernel_rfl) Yba.func8
    (ChangeSpec.witness6 (enc := enc) (C := Yba.checked) false ⟨#[], #[.slice none 0 0], []⟩ 8 (by kernel_rfl) (by kernel_rfl) (by kernel_rfl) (by kernel_rfl)) ?_
  intro W base args ds gs before hval0 hW hcnd _
  have hval : ∀ (j : Nat) t v, Yba.f8.params[j]? = some t → args[j]? = some v → Value.okWide Yba.prog W .any base t v := hval0
  have hW' := hW
  obtain ⟨p, q, hA0, hV, rfl, hfz, hnd⟩ := hW
  have hA : DataW.TrodAll enc Yba.prog W 0 (fun _ => true) true Yba.f8.params.toList args.toList ds p := hA0
  rw [Yba.params8] at hA hval
  obtain ⟨v0, vs0, d0, ds0, p0, q0, hargs, rfl, rfl, h0, r0⟩ := trodAll_cons hA
  obtain ⟨rfl, rfl, rfl⟩ := trodAll_nil r0
  obtain rfl : args = #[v0] := by cases args; simp_all
  obtain ⟨rfl, rfl⟩ := trodVars_none hV
  obtain ⟨a0, len0, cap0, rfl⟩ := okWide_slice Yba.underlying49 (hval 0 49 v0 rfl rfl)
  have k0 := h0
  have lt0 : ∀ x ∈ p0, x.block < W.heap.size := by obtain ⟨m, hm⟩ := k0; exact DataW.trod_lt m _ _ _ hm
  obtain ⟨S, hS, hrow⟩ := open_steps h0
  clear hA0 hval0
  refine (C.script_walk S a0 len0 cap0 W hS hrow).mono fun e W' ⟨he, bel⟩ => ?_
  subst he
  exact ⟨_, rfl, _, _, _, [], _, [], hW', trodAll_mk1 (shut_bool Yba.underlying4 _), (trodAll_cons_mk (Below.trod laidOut (by kernel_rfl) (of_decide_eq_true (by kernel_rfl)) k0 bel lt0) trodAll_mk0), rfl, bel.frame _, fun h => by cases h⟩

theorem over : Rows.lawS2335CScriptRow.holds Yba.pinned (OpenSpec.ofChange Rows.lawS2335CScriptSpec) :=
  OpenClaim.holds_of_wide 8 Yba.f8 rfl rfl rfl rfl rfl rfl rfl ⟨rfl, rfl, rfl, rfl, rfl⟩ rfl rfl rfl rfl rfl (by kernel_rfl) Yba.func8 (by kernel_rfl)
    (of_decide_eq_true (by kernel_rfl)) (by unfold Func.isWrapper; first | (rw [if_pos (by decide +kernel)]; kernel_rfl) | (rw [if_neg (by decide +kernel)]; exact ⟨rfl, rfl⟩))
    (fun os started H enc _ => lifted os started H enc)

/-- ████ THE STATEMENT ████ -/
theorem proved : Rows.LawS2335CScriptSaid := over
end Go.Proofs.Ybulkavii.lawS2335CScript
