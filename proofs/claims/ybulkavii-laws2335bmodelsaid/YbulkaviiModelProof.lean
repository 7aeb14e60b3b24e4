/-
  Seat b2335a: 'Rows.LawS2335BModelSaid', proved.
-/
import Derived.Test.YbulkaviiRows
import Derived.Test.YbulkaviiModel
import Derived.Test.YbulkaviiOpenArr
import Derived.WalkKit
import Derived.ProofKit
import Derived.OpenShut
import Derived.ShutString
import Derived.ChangeOld
import Derived.Below
import Derived.Deep.Slices
namespace Go.Proofs.Ybulkavii.lawS2335BModel
open Go.ChangeShapes Go.WideShapes Go.ChangeAt Go.RowKit
open Go.ChangeMaps (open_string shut_string)
set_option linter.unusedVariables false

theorem own : ownKnob Yba.prog.godebug = none := by kernel_rfl
theorem laidOut : laidOutB Yba.prog = true := by kernel_rfl
theorem cells5 : Yba.prog.cellsOf 5 = 1 := by kernel_rfl
theorem cells33 : Yba.prog.cellsOf 33 = 20 := by kernel_rfl

/-- WHAT THE WALK IS TOLD OF A SLICE OF ARRAYS OF BYTES. -/
theorem open_known {H : Type} {enc : TypeId × Value → H} {W : World} {a : Option Addr} {len cap : Nat} {d : DataW H} {p : List MemPlace} (h : DataW.Trod enc Yba.prog W 0 (fun _ => true) true 34 (.slice a len cap) d p) :
    ∃ ks : List (List Int), (0 < len → ∃ pb po, a = some ⟨pb, po, none⟩ ∧ pb < W.heap.size ∧ ∀ j, j < len → W.rangeAt pb (po + j * 20) ((ks.getD j []).map (Value.int .u8))) ∧ ∀ i, i < len → (ks.getD i []).length = 20 := by
  obtain ⟨fuel, hf⟩ := h
  rcases Deep.open_slice Yba.underlying34 hf with ⟨hcs, _⟩ | ⟨x, l, c, m, n, D, Pl, hcs, _, hl, _, hm, _, hel⟩
  · simp [Value.cells] at hcs
    obtain ⟨rfl, rfl, rfl⟩ := hcs
    exact ⟨[], fun h => absurd h (by omega), fun i hi => absurd hi (by omega)⟩
  · simp [Value.cells] at hcs
    obtain ⟨rfl, rfl, rfl⟩ := hcs
    simp only [if_true] at hm
    subst hm
    rw [cells33] at hel
    have key : ∀ i, i < len → ∃ zs : List Int, zs.length = 20 ∧ ∀ j v, (zs.map (Value.int .u8))[j]? = some v → W.cell? ((x.add (i * 20)).add j) = some v := fun i hi => by
      obtain ⟨cs', h1, h2⟩ := hel i (by omega)
      obtain ⟨_, hlen, hc⟩ := World.cells?_some h1
      obtain ⟨zs, hz, he, _⟩ := cells_ints Yba.underlying33 Yba.underlying5 cells5 hlen h2
      exact ⟨zs, hz, fun j v hv => by
        have hj : j < 20 := by
          have := (List.getElem?_eq_some_iff.1 hv).1
          simp at this; omega
        rw [hc j hj, he, hv]⟩
    obtain ⟨F, hF⟩ := Deep.choose_lt (p := fun i zs => zs.length = 20 ∧ ∀ j v, (List.map (Value.int .u8) zs)[j]? = some v → W.cell? ((x.add (i * 20)).add j) = some v) key
    have e : ∀ i, i < len → ((List.range len).map F).getD i [] = F i := fun i hi => by simp [hi]
    refine ⟨(List.range len).map F, fun h0 => ?_, fun i hi => by rw [e i hi]; exact (hF i hi).1⟩
    obtain ⟨b, o, sp⟩ := x
    have hfirst : ∃ v, W.cell? (⟨b, o, sp⟩ : Addr) = some v := by
      have hl0 := (hF 0 h0).1
      have := (hF 0 h0).2 0 _ (List.getElem?_eq_getElem (by simp; omega))
      exact ⟨_, by simpa [Addr.add] using this⟩
    obtain ⟨v0, hv0⟩ := hfirst
    have hspot : sp = none := by simpa using World.cell?_spot hv0
    subst hspot
    refine ⟨b, o, rfl, World.block_lt_of_cell? W _ hv0, fun j hj => ?_⟩
    rw [e j hj]
    intro i v hv
    have := (hF j hj).2 i v hv
    rw [Addr.add_mid, Addr.add_mid] at this
    exact this

set_option maxRecDepth 100000 in
theorem lifted (os : Os) (started : os.Started) (H : Type) (enc : TypeId × Value → H) :
    ReturnsInHanded {} Yba.checked os 6 .any (Rows.lawS2335BModelSpec.pre6 enc Yba.prog Yba.f6 Rows.lawS2335BModelRow.domain false) (Rows.lawS2335BModelSpec.post enc Yba.prog Yba.f6 false true false false) := by
  refine returnsInHanded_of_change (C := Yba.checked) own started (by kernel_rfl) Yba.func6
    (ChangeSpec.witness6 (enc := enc) (C := Yba.checked) false ⟨#[], #[.int .i64 0, .agg (bcells (List.replicate 20 0)), .slice none 0 0], []⟩ 8 (by kernel_rfl) (by kernel_rfl) (by kernel_rfl) (by kernel_rfl)) ?_
  intro W base args ds gs before hval0 hW hcnd _
  have hval : ∀ (j : Nat) t v, Yba.f6.params[j]? = some t → args[j]? = some v → Value.okWide Yba.prog W .any base t v := hval0
  have hW' := hW
  obtain ⟨p, q, hA0, hV, rfl, hfz, hnd⟩ := hW
  have hA : DataW.TrodAll enc Yba.prog W 0 (fun _ => true) true Yba.f6.params.toList args.toList ds p := hA0
  rw [Yba.params6] at hA hval
  obtain ⟨v0, vs0, d0, ds0, p0, q0, hargs, rfl, rfl, h0, r0⟩ := trodAll_cons hA
  obtain ⟨v1, vs1, d1, ds1, p1, q1, rfl, rfl, rfl, h1, r1⟩ := trodAll_cons r0
  obtain ⟨v2, vs2, d2, ds2, p2, q2, rfl, rfl, rfl, h2, r2⟩ := trodAll_cons r1
  obtain ⟨rfl, rfl, rfl⟩ := trodAll_nil r2
  obtain rfl : args = #[v0, v1, v2] := by cases args; simp_all
  obtain ⟨rfl, rfl⟩ := trodVars_none hV
  obtain ⟨a0, rfl, rfl, rfl, w0⟩ := open_int Yba.underlying3 (hval 0 3 v0 rfl rfl) h0
  have k1 := h1
  have lt1 : ∀ x ∈ p1, x.block < W.heap.size := by obtain ⟨m, hm⟩ := k1; exact DataW.trod_lt m _ _ _ hm
  obtain ⟨self, hs, rfl, hsx⟩ := open_arr Yba.underlying33 Yba.underlying5 cells5 cells33 (hval 1 33 v1 rfl rfl) h1
  obtain ⟨a2, len2, cap2, rfl⟩ := okWide_slice Yba.underlying34 (hval 2 34 v2 rfl rfl)
  have k2 := h2
  have lt2 : ∀ x ∈ p2, x.block < W.heap.size := by obtain ⟨m, hm⟩ := k2; exact DataW.trod_lt m _ _ _ hm
  obtain ⟨ks, hrow, hkl⟩ := open_known h2
  clear hA0 hval0
  refine (model_walk a0 self ks a2 len2 cap2 W hs hrow hkl).mono fun e W' ⟨he, bel⟩ => ?_
  subst he
  exact ⟨_, rfl, _, _, _, [], _, [], hW', trodAll_mk1 (shut_bool Yba.underlying4 _), (trodAll_cons_mk (shut_int Yba.underlying3 w0) (trodAll_cons_mk (Below.trod laidOut (by kernel_rfl) (of_decide_eq_true (by kernel_rfl)) k1 bel lt1) (trodAll_cons_mk (Below.trod laidOut (by kernel_rfl) (of_decide_eq_true (by kernel_rfl)) k2 bel lt2) trodAll_mk0))), rfl, bel.frame _, fun h => by cases h⟩

theorem over : Rows.lawS2335BModelRow.holds Yba.pinned (OpenSpec.ofChange Rows.lawS2335BModelSpec) :=
  OpenClaim.holds_of_wide 6 Yba.f6 rfl rfl rfl rfl rfl rfl rfl ⟨rfl, rfl, rfl, rfl, rfl⟩ rfl rfl rfl rfl rfl (by kernel_rfl) Yba.func6 (by kernel_rfl)
    (of_decide_eq_true (by kernel_rfl)) (by unfold Func.isWrapper; first | (rw [if_pos (by decide +kernel)]; kernel_rfl) | (rw [if_neg (by decide +kernel)]; exact ⟨rfl, rfl⟩))
    (fun os started H enc _ => lifted os started H enc)

/-- ████ THE STATEMENT ████ -/
theorem proved : Rows.LawS2335BModelSaid := over
end Go.Proofs.Ybulkavii.lawS2335BModel
