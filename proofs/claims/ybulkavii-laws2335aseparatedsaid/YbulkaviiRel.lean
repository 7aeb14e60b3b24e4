/-
  Seat b2335a, laws A: AN OPERATION THAT GIVES SOME VALUE OF A SET, AND DRAWS (a float operation that may be invalid), MAY BE TAKEN FIRST IN A REGION THAT DRAWS ITS ORDER, where what follows is shown for every value of the set and for every number of draws. After Derived/OrdersHeld.lean's own law.
-/
import Derived.Test.YbulkaviiFl
import Derived.OrdersHeld
namespace Go.Proofs.Ybulkavii.A
open Go Go.RowKit

section
variable {P : Program} {ops : Array Oper} {Q : Exit → Act → World → Prop} {md : Region.Mode} {S : World → Prop} {R : Value → Prop}

/-- Whatever order, however many draws; S holds behind every operation. -/
def wpAnyD (P : Program) (md : Region.Mode) (ops : Array Oper) (Q : Exit → Act → World → Prop) (S : World → Prop) : Nat → Array Bool → Act → World → Prop
  | 0, listed, a, w => Region.ready md ops listed = [] ∧ ∀ d, Q .normal a (w.drewN d)
  | fuel + 1, listed, a, w =>
    (Region.ready md ops listed = [] → ∀ d, Q .normal a (w.drewN d)) ∧
    ∀ i ∈ Region.ready md ops listed, ∀ d, wpOp P ops Q i (fun a' w' => S w' ∧ wpAnyD P md ops Q S fuel (listed.setIfInBounds i true) a' w') a (w.drewN d)

theorem wpAny_of_D : ∀ (fuel : Nat) (listed : Array Bool) (a : Act) (w : World), wpAnyD P md ops Q S fuel listed a w → wpAny P md ops Q fuel listed a w
  | 0, _, _, _, h => ⟨h.1, h.2 0⟩
  | fuel + 1, _, _, _, h => ⟨fun h0 => h.1 h0 0, fun i hi => wpOp_mono (fun a' w' h' => wpAny_of_D fuel _ a' w' h'.2) (h.2 i hi 0)⟩

theorem wpAnyD_drewN : ∀ (fuel : Nat) (listed : Array Bool) (a : Act) (w : World) (d : Nat), wpAnyD P md ops Q S fuel listed a w → wpAnyD P md ops Q S fuel listed a (w.drewN d)
  | 0, _, _, w, d, h => ⟨h.1, fun d' => by rw [World.drewN_drewN]; exact h.2 _⟩
  | fuel + 1, _, _, w, d, h => ⟨fun h0 d' => by rw [World.drewN_drewN]; exact h.1 h0 _, fun i hi d' => by rw [World.drewN_drewN]; exact h.2 i hi _⟩

/-- In state a, in every world that meets S, o leaves some value of R in its temporary, and draws. -/
def GivesIn (P : Program) (ops : Array Oper) (S : World → Prop) (R : Value → Prop) (o : Oper) (a : Act) : Prop :=
  (Region.wanted o (yielded ops a.tmps) = true ∧ ∀ w, S w → ∃ v d, R v ∧ (execOp a.eval o).run P w = .ok (.value v) (w.drewN d)) ∨
  (Region.wanted o (yielded ops a.tmps) = false ∧ R undef)

theorem GivesIn.of_same {o : Oper} {a a' : Act} (hy : GivesIn P ops S R o a) (he : execOp a'.eval o = execOp a.eval o)
    (hw : Region.wanted o (yielded ops a'.tmps) = Region.wanted o (yielded ops a.tmps)) : GivesIn P ops S R o a' := by
  unfold GivesIn at *
  rw [he, hw]
  exact hy

theorem GivesIn.wpOp {i : Nat} {o : Oper} {a : Act} (hi : ops[i]? = some o) (hy : GivesIn P ops S R o a)
    {K : Act → World → Prop} {w : World} (hS : S w) (h : ∀ v d, R v → K (a.put o.dst v) (w.drewN d)) : wpOp P ops Q i K a w := by
  unfold Go.wpOp
  simp only [hi]
  rcases hy with ⟨hw, hv⟩ | ⟨hw, hu⟩
  · obtain ⟨v, d, hR, hr⟩ := hv w hS
    simp only [hw, if_true, Oper.wp, hr, Oper.upon]; exact .inl (h v d hR)
  · simp only [hw, Bool.false_eq_true, if_false]; exact h undef 0 hu

/-- Neither a call nor a row. -/
def NoEnter (P : Program) (o : Oper) : Prop := ∀ (a : Act) (w w' : World), (∀ f args, (execOp a.eval o).run P w ≠ .ok (.enter f args) w') ∧ ∀ row args, (execOp a.eval o).run P w ≠ .ok (.row row args) w'

theorem wpOp_putR {j : Nat} {oi oj : Oper} (hj : ops[j]? = some oj) (hap : oi.apart ops oj = true)
    (hsi : ∀ cs b, oi.op ≠ .select cs b) (hsj : ∀ cs b, oj.op ≠ .select cs b) (hne : ∃ v, R v) (hno : NoEnter P oj)
    (hQ : ∀ v, R v → ∀ c a w, Q (.panic c) (a.put oi.dst v) w → Q (.panic c) a w) {K : Act → World → Prop} {a : Act} {w : World}
    (hy : GivesIn P ops S R oi a) (h : ∀ v, R v → wpOp P ops Q j K (a.put oi.dst v) w) :
    wpOp P ops Q j (fun a' w' => GivesIn P ops S R oi a' ∧ ∀ v, R v → K (a'.put oi.dst v) w') a w := by
  obtain ⟨h1, h2, h3⟩ := Oper.apart_spec hap
  have keep : ∀ (a : Act), GivesIn P ops S R oi a → ∀ u, GivesIn P ops S R oi (a.put oj.dst u) := fun a hy u =>
    hy.of_same (execOp_put oi hsi a oj.dst u h3) (wanted_put oi a oj.dst u h3)
  have keepD : ∀ d, GivesIn P ops S R oi { a with defers := d :: a.defers } := fun d => hy.of_same rfl rfl
  obtain ⟨v0, hv0⟩ := hne
  unfold wpOp at *
  simp only [hj] at *
  have hwt : ∀ v, Region.wanted oj (yielded ops (a.put oi.dst v).tmps) = Region.wanted oj (yielded ops a.tmps) := fun v => wanted_put oj a oi.dst v h1
  simp only [hwt] at h
  split
  · rename_i hw
    simp only [hw, if_true] at h
    by_cases hlet : Oper.asks P oj a w ∧ LetsOut Q
    · exact .inr hlet
    · refine .inl ?_
      have h' : ∀ v, R v → Oper.wp P oj (a.put oi.dst v) w K Q := fun v hv => by
        rcases h v hv with hh | ⟨hasks, hl⟩
        · exact hh
        · exfalso
          refine hlet ⟨?_, hl⟩
          unfold Oper.asks at *
          rw [execOp_put oj hsj a oi.dst v h1] at hasks
          exact hasks
      have he : ∀ v, execOp (a.put oi.dst v).eval oj = execOp a.eval oj := fun v => execOp_put oj hsj a oi.dst v h1
      have hn := hno a w
      unfold Oper.wp at *
      simp only [he] at h'
      generalize (execOp a.eval oj).run P w = r at *
      cases r with
      | ok n w' =>
        cases n <;> simp only [Oper.upon] at h' ⊢
        case value u => exact ⟨keep a hy u, fun v hv => by rw [← Act.put_comm a v u h2]; exact h' v hv⟩
        case skip => exact ⟨keep a hy _, fun v hv => by rw [← Act.put_comm a v undef h2]; exact h' v hv⟩
        case defer d =>
          refine ⟨keep _ (keepD d) _, fun v hv => ?_⟩
          rw [← Act.put_comm _ v undef h2, ← Act.put_defers]
          exact h' v hv
        case enter f args => exact absurd rfl ((hn w').1 f args)
        case row row args => exact absurd rfl ((hn w').2 row args)
        all_goals exact h' v0 hv0
      | halt x w' =>
        cases x <;> simp only [Oper.upon] at h' ⊢
        case panic u => exact hQ v0 hv0 _ _ _ (h' v0 hv0)
        all_goals exact h' v0 hv0
  · rename_i hw
    simp only [hw] at h
    exact ⟨keep a hy _, fun v hv => by rw [← Act.put_comm a v undef h2]; exact h v hv⟩

theorem wpAnyD_first {i : Nat} {oi : Oper} (hi : ops[i]? = some oi) (hsel : ∀ (j : Nat) (o : Oper) cs b, ops[j]? = some o → o.op ≠ .select cs b) (hne : ∃ v, R v)
    (hSd : ∀ w d, S w → S (w.drewN d)) (hQ : ∀ v, R v → ∀ c a w, Q (.panic c) (a.put oi.dst v) w → Q (.panic c) a w) :
    ∀ (fuel : Nat) (listed : Array Bool) (a : Act) (w : World),
      (∀ j oj, ops[j]? = some oj → j ≠ i → listed.getD j true = false → (∀ e ∈ oj.after, Region.binds md e = true → e.on ≠ i) → oi.apart ops oj = true ∧ NoEnter P oj) →
      i ∈ Region.ready md ops listed → GivesIn P ops S R oi a → S w →
      (∀ v, R v → wpAnyD P md ops Q S fuel (listed.setIfInBounds i true) (a.put oi.dst v) w) → wpAnyD P md ops Q S (fuel + 1) listed a w := by
  intro fuel
  induction fuel with
  | zero =>
    intro listed a w _ hr hy hS H
    refine ⟨fun h => (by rw [h] at hr; cases hr), fun j hj d => ?_⟩
    by_cases hji : j = i
    · subst hji
      exact hy.wpOp hi (hSd _ _ hS) fun v d' hv => ⟨hSd _ _ (hSd _ _ hS), wpAnyD_drewN _ _ _ _ _ (wpAnyD_drewN _ _ _ _ _ (H v hv))⟩
    · have := ready_mono hj hji
      obtain ⟨v0, hv0⟩ := hne
      rw [(H v0 hv0).1] at this
      cases this
  | succ fuel ih =>
    intro listed a w hfree hr hy hS H
    refine ⟨fun h => (by rw [h] at hr; cases hr), fun j hj d => ?_⟩
    by_cases hji : j = i
    · subst hji
      exact hy.wpOp hi (hSd _ _ hS) fun v d' hv => ⟨hSd _ _ (hSd _ _ hS), wpAnyD_drewN _ _ _ _ _ (wpAnyD_drewN _ _ _ _ _ (H v hv))⟩
    · have h1 := fun v hv => (H v hv).2 j (ready_mono hj hji) d
      obtain ⟨hjun, oj, hoj, hall⟩ := mem_ready.1 hj
      have hnot : ∀ e ∈ oj.after, Region.binds md e = true → e.on ≠ i := fun e he hb heq => by
        have h1 := hall e he hb
        have h0 := (mem_ready.1 hr).1
        rw [heq] at h1
        rcases Nat.lt_or_ge i listed.size with h' | h'
        · simp [h'] at h0 h1; rw [h0] at h1; cases h1
        · simp [Array.getElem?_eq_none h'] at h1
      obtain ⟨hap, hno⟩ := hfree j oj hoj hji hjun hnot
      have h2 := wpOp_putR hoj hap (fun cs b => hsel i oi cs b hi) (fun cs b => hsel j oj cs b hoj) hne hno hQ hy h1
      have hfree' : ∀ k ok, ops[k]? = some ok → k ≠ i → (listed.setIfInBounds j true).getD k true = false →
          (∀ e ∈ ok.after, Region.binds md e = true → e.on ≠ i) → oi.apart ops ok = true ∧ NoEnter P ok := fun k ok hk hki hun hno => by
        refine hfree k ok hk hki ?_ hno
        by_cases hjk : j = k
        · subst hjk; exact hjun
        · rw [getD_set_ne true hjk] at hun; exact hun
      refine wpOp_mono (fun a' w' h3 => ?_) h2
      obtain ⟨v0, hv0⟩ := hne
      refine ⟨(h3.2 v0 hv0).1, ih (listed.setIfInBounds j true) a' w' hfree' (ready_mono hr (Ne.symm hji)) h3.1 (h3.2 v0 hv0).1 fun v hv => ?_⟩
      rw [Array.setIfInBounds_comm _ _ hji]
      exact (h3.2 v hv).2

/-- Neither a call, a defer, a go nor a select: by the operation's own form. -/
def plainB (o : Oper) : Bool :=
  match o.op with
  | .load .. | .store .. | .binOp .. | .unOp .. | .build .. | .alloc .. | .move .. | .assign .. | .indexAddr .. | .fieldAddr .. | .convert .. => true
  | _ => false

theorem v_no (s : Sem Value) (w w' : World) : (∀ f args, ((s >>= fun x => pure (.value x)) : Sem Next).run P w ≠ .ok (.enter f args) w') ∧ ∀ row args, ((s >>= fun x => pure (.value x)) : Sem Next).run P w ≠ .ok (.row row args) w' := by
  rw [Sem.run_bind]
  cases s.run P w with
  | ok x w1 => constructor <;> intro a b h <;> simp [Result.andThen] at h
  | halt x w1 => constructor <;> intro a b h <;> simp [Result.andThen] at h
theorem u_no (s : Sem Unit) (w w' : World) : (∀ f args, ((s >>= fun _ => pure .skip) : Sem Next).run P w ≠ .ok (.enter f args) w') ∧ ∀ row args, ((s >>= fun _ => pure .skip) : Sem Next).run P w ≠ .ok (.row row args) w' := by
  rw [Sem.run_bind]
  cases s.run P w with
  | ok x w1 => constructor <;> intro a b h <;> simp [Result.andThen] at h
  | halt x w1 => constructor <;> intro a b h <;> simp [Result.andThen] at h

theorem noEnter_of {o : Oper} (h : plainB o = true) : NoEnter P o := by
  intro a w w'
  unfold plainB at h
  unfold execOp
  cases hop : o.op <;> simp only [hop] at h ⊢ <;> first
    | exact absurd h (by decide)
    | exact v_no _ _ _
    | exact u_no _ _ _
    | (constructor <;> intro x y h <;> simp at h)

/-- All that has not come up is plain. -/
def plainAll (ops : Array Oper) (listed : Array Bool) : Bool := (List.range ops.size).all fun j => listed.getD j true || (ops[j]?.map plainB).getD true

/-- TAKE NUMBER i FIRST. -/
theorem wpAnyD_take (R : Value → Prop) {i : Nat} {oi : Oper} {fuel : Nat} {listed : Array Bool} {a : Act} {w : World} (hi : ops[i]? = some oi)
    (hs : Region.noSelect ops = true) (hf : Region.free md ops listed i = true) (hp : plainAll ops listed = true) (hr : (Region.ready md ops listed).contains i = true) (hne : ∃ v, R v) (hSd : ∀ w d, S w → S (w.drewN d))
    (hQ : ∀ v, R v → ∀ c a w, Q (.panic c) (a.put oi.dst v) w → Q (.panic c) a w) (hy : GivesIn P ops S R oi a) (hS : S w)
    (h : ∀ v, R v → wpAnyD P md ops Q S fuel (listed.setIfInBounds i true) (a.put oi.dst v) w) : wpAnyD P md ops Q S (fuel + 1) listed a w :=
  wpAnyD_first hi (Region.noSelect_spec hs) hne hSd hQ fuel listed a w (fun j oj hj hji hun hno => ⟨Region.free_spec hi hf j oj hj hji hun hno, by
    refine noEnter_of ?_
    have h1 := List.all_eq_true.1 hp j (List.mem_range.2 (Array.getElem?_eq_some_iff.1 hj).1)
    rw [hun, hj] at h1
    simpa using h1⟩) (by simpa using hr) hy hS h

theorem wpAnyD_all {rs : List Nat} {fuel : Nat} {listed : Array Bool} {a : Act} {w : World} (hr : Region.ready md ops listed = rs) (hne : rs ≠ [])
    (h : ∀ i ∈ rs, ∀ d, wpOp P ops Q i (fun a' w' => S w' ∧ wpAnyD P md ops Q S fuel (listed.setIfInBounds i true) a' w') a (w.drewN d)) : wpAnyD P md ops Q S (fuel + 1) listed a w :=
  ⟨fun h0 => absurd (hr ▸ h0) hne, hr ▸ h⟩

theorem wpAnyD_done {listed : Array Bool} {a : Act} {w : World} (hr : Region.ready md ops listed = []) (h : ∀ d, Q .normal a (w.drewN d)) :
    ∀ fuel, wpAnyD P md ops Q S fuel listed a w
  | 0 => ⟨hr, h⟩
  | _ + 1 => ⟨fun _ => h, by rw [hr]; simp⟩

theorem wp_region_D {id : Nat} {a : Act} {w : World} (S : World → Prop) (hm : P.follows .mixedOrders = true)
    (h : wpAnyD P .any ops Q S ops.size (Array.replicate ops.size false) a (w.drewN 1)) : (Code.region id ops true).wp P Q a w :=
  wp_region_any hm (wpAny_of_D _ _ _ _ h)

end
end Go.Proofs.Ybulkavii.A
