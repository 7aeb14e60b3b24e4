/-
  Seat b2335a: 'Rows.LawS2335ANoOthersSaid', proved.
-/
import Derived.Test.YbulkaviiRows
import Derived.Test.YbulkaviiNoOthers
import Derived.WalkKit
import Derived.ProofKit
import Derived.OpenShut
import Derived.ShutString
import Derived.ChangeOld
import Derived.Below
namespace Go.Proofs.Ybulkavii.lawS2335ANoOthers
open Go.ChangeShapes Go.WideShapes Go.ChangeAt Go.RowKit
set_option linter.unusedVariables false

theorem own : ownKnob Yba.prog.godebug = none := by kernel_rfl

section
variable {H : Type} {enc : TypeId × Value → H} {P : Program} {w : World} {base : Nat} {spare : Nat → Bool} {held : Bool}

theorem open_float {r : Reach} {b0 : Nat} {t : TypeId} {k : FloatKind} {v : Value} {d : DataW H} {ps : List MemPlace} (ht : P.underlying t = some (.float k)) (hval : Value.okWide P w r b0 t v) (hd : DataW.Trod enc P w base spare held t v d ps) :
    ∃ n, v = .float k n ∧ d = .lit (.float k n) ∧ ps = [] ∧ (Lit.float k n).wf = true := by
  obtain ⟨n, rfl⟩ : ∃ n, v = .float k n := by
    simp only [Value.okWide, ht, Cell.okWide] at hval
    cases v <;> simp_all [Cell.ok]
  obtain ⟨fuel, hf⟩ := hd
  cases fuel with
  | zero => simp [DataW.trod] at hf
  | succ m =>
    unfold DataW.trod at hf
    rw [ht] at hf
    simp only [Value.cells] at hf
    split at hf <;> simp_all

theorem shut_float {t : TypeId} {k : FloatKind} {n : Nat} (ht : P.underlying t = some (.float k)) (hw : (Lit.float k n).wf = true) : DataW.Trod enc P w base spare held t (.float k n) (.lit (.float k n)) [] :=
  ⟨1, by simp [DataW.trod, Value.cells, ht, hw]⟩
end

set_option maxRecDepth 100000 in
theorem lifted (os : Os) (started : os.Started) (H : Type) (enc : TypeId × Value → H) :
    ReturnsInHanded {} Yba.checked os 4 .any (Rows.lawS2335ANoOthersSpec.pre6 enc Yba.prog Yba.f4 Rows.lawS2335ANoOthersRow.domain false) (Rows.lawS2335ANoOthersSpec.post enc Yba.prog Yba.f4 false true false false) := by
  refine returnsInHanded_of_change (C := Yba.checked) own started (by kernel_rfl) Yba.func4
    (ChangeSpec.witness6 (enc := enc) (C := Yba.checked) false ⟨#[], #[.float .f64 0, .float .f64 0, .float .f64 0, .float .f64 0], []⟩ 8 (by kernel_rfl) (by kernel_rfl) (by kernel_rfl) (by kernel_rfl)) ?_
  intro W base args ds gs before hval0 hW hcnd _
  have hval : ∀ (j : Nat) t v, Yba.f4.params[j]? = some t → args[j]? = some v → Value.okWide Yba.prog W .any base t v := hval0
  have hW' := hW
  obtain ⟨p, q, hA0, hV, rfl, hfz, hnd⟩ := hW
  have hA : DataW.TrodAll enc Yba.prog W 0 (fun _ => true) true Yba.f4.params.toList args.toList ds p := hA0
  rw [Yba.params4] at hA hval
  obtain ⟨v0, vs0, d0, ds0, p0, q0, hargs, rfl, rfl, h0, r0⟩ := trodAll_cons hA
  obtain ⟨v1, vs1, d1, ds1, p1, q1, rfl, rfl, rfl, h1, r1⟩ := trodAll_cons r0
  obtain ⟨v2, vs2, d2, ds2, p2, q2, rfl, rfl, rfl, h2, r2⟩ := trodAll_cons r1
  obtain ⟨v3, vs3, d3, ds3, p3, q3, rfl, rfl, rfl, h3, r3⟩ := trodAll_cons r2
  obtain ⟨rfl, rfl, rfl⟩ := trodAll_nil r3
  obtain rfl : args = #[v0, v1, v2, v3] := by cases args; simp_all
  obtain ⟨rfl, rfl⟩ := trodVars_none hV
  obtain ⟨a0, rfl, rfl, rfl, w0⟩ := open_float Yba.underlying22 (hval 0 22 v0 rfl rfl) h0
  obtain ⟨a1, rfl, rfl, rfl, w1⟩ := open_float Yba.underlying22 (hval 1 22 v1 rfl rfl) h1
  obtain ⟨a2, rfl, rfl, rfl, w2⟩ := open_float Yba.underlying22 (hval 2 22 v2 rfl rfl) h2
  obtain ⟨a3, rfl, rfl, rfl, w3⟩ := open_float Yba.underlying22 (hval 3 22 v3 rfl rfl) h3
  clear hA0 hval0
  refine (A.noOthers_walk a0 a1 a2 a3 W).mono fun e W' ⟨he, bel⟩ => ?_
  subst he
  exact ⟨_, rfl, _, _, _, [], _, [], hW', trodAll_mk1 (shut_bool Yba.underlying4 _), (trodAll_cons_mk (shut_float Yba.underlying22 w0) (trodAll_cons_mk (shut_float Yba.underlying22 w1) (trodAll_cons_mk (shut_float Yba.underlying22 w2) (trodAll_cons_mk (shut_float Yba.underlying22 w3) trodAll_mk0)))), rfl, bel.frame _, fun h => by cases h⟩

theorem over : Rows.lawS2335ANoOthersRow.holds Yba.pinned (OpenSpec.ofChange Rows.lawS2335ANoOthersSpec) :=
  OpenClaim.holds_of_wide 4 Yba.f4 rfl rfl rfl rfl rfl rfl rfl ⟨rfl, rfl, rfl, rfl, rfl⟩ rfl rfl rfl rfl rfl (by kernel_rfl) Yba.func4 (by kernel_rfl)
    (of_decide_eq_true (by kernel_rfl)) (by unfold Func.isWrapper; first | (rw [if_pos (by decide +kernel)]; kernel_rfl) | (rw [if_neg (by decide +kernel)]; exact ⟨rfl, rfl⟩))
    (fun os started H enc _ => lifted os started H enc)

/-- ████ THE STATEMENT ████ -/
theorem proved : Rows.LawS2335ANoOthersSaid := over
end Go.Proofs.Ybulkavii.lawS2335ANoOthers
