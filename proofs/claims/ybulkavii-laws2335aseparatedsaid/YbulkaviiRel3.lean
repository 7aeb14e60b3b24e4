/-
  Seat b2335a, laws A: the rule of YbulkaviiRel, for calls that only draw, and beside operations that cannot come up before the one that is taken.
-/
import Derived.Test.YbulkaviiRel2
namespace Go.Proofs.Ybulkavii.A
open Go Go.RowKit

section
variable {P : Program} {ops : Array Oper} {Q : Exit → Act → World → Prop} {md : Region.Mode} {S : World → Prop} {R : Value → Prop}

/-- As GivesIn; or a call that returns some value of R, and draws. -/
def GivesC (P : Program) (ops : Array Oper) (S : World → Prop) (R : Value → Prop) (o : Oper) (a : Act) : Prop :=
  Region.wanted o (yielded ops a.tmps) = true ∧ ∀ w, S w →
    (∃ v d, R v ∧ (execOp a.eval o).run P w = .ok (.value v) (w.drewN d)) ∨
    (∃ f args, (execOp a.eval o).run P w = .ok (.enter f args) w ∧ Calls P f args w fun e w' => ∃ v d, R v ∧ e = .returned v ∧ w' = w.drewN d)

theorem GivesC.of_same {o : Oper} {a a' : Act} (hy : GivesC P ops S R o a) (he : execOp a'.eval o = execOp a.eval o)
    (hw : Region.wanted o (yielded ops a'.tmps) = Region.wanted o (yielded ops a.tmps)) : GivesC P ops S R o a' := by
  unfold GivesC at *
  rw [he, hw]
  exact hy

theorem GivesC.wpOp {i : Nat} {o : Oper} {a : Act} (hi : ops[i]? = some o) (hy : GivesC P ops S R o a)
    {K : Act → World → Prop} {w : World} (hS : S w) (h : ∀ v d, R v → K (a.put o.dst v) (w.drewN d)) : wpOp P ops Q i K a w := by
  unfold Go.wpOp
  obtain ⟨hw, hv⟩ := hy
  simp only [hi, hw, if_true]
  refine .inl ?_
  unfold Oper.wp
  rcases hv w hS with ⟨v, d, hR, hr⟩ | ⟨f, args, hr, hc⟩
  · rw [hr]; exact h v d hR
  · rw [hr]
    refine hc.mono ?_
    rintro e w' ⟨v, d, hR, rfl, rfl⟩
    exact h v d hR

theorem wpOp_putC {j : Nat} {oi oj : Oper} (hj : ops[j]? = some oj) (hap : oi.apart ops oj = true)
    (hsi : ∀ cs b, oi.op ≠ .select cs b) (hsj : ∀ cs b, oj.op ≠ .select cs b) (hne : ∃ v, R v) (hno : NoEnter P oj ∨ ∀ v v', R v → R v' → v = v')
    (hQ : ∀ v, R v → ∀ c a w, Q (.panic c) (a.put oi.dst v) w → Q (.panic c) a w) {K : Act → World → Prop} {a : Act} {w : World}
    (hy : GivesC P ops S R oi a) (h : ∀ v, R v → wpOp P ops Q j K (a.put oi.dst v) w) :
    wpOp P ops Q j (fun a' w' => GivesC P ops S R oi a' ∧ ∀ v, R v → K (a'.put oi.dst v) w') a w := by
  obtain ⟨h1, h2, h3⟩ := Oper.apart_spec hap
  have keep : ∀ (a : Act), GivesC P ops S R oi a → ∀ u, GivesC P ops S R oi (a.put oj.dst u) := fun a hy u =>
    hy.of_same (execOp_put oi hsi a oj.dst u h3) (wanted_put oi a oj.dst u h3)
  have keepD : ∀ d, GivesC P ops S R oi { a with defers := d :: a.defers } := fun d => hy.of_same rfl rfl
  obtain ⟨v0, hv0⟩ := hne
  unfold wpOp at *
  simp only [hj] at *
  have hwt : ∀ v, Region.wanted oj (yielded ops (a.put oi.dst v).tmps) = Region.wanted oj (yielded ops a.tmps) := fun v => wanted_put oj a oi.dst v h1
  simp only [hwt] at h
  split
  · rename_i hw
    simp only [hw, if_true] at h
    by_cases hlet : Oper.asks P oj a w ∧ LetsOut Q
    · exact .inr hlet
    · refine .inl ?_
      have h' : ∀ v, R v → Oper.wp P oj (a.put oi.dst v) w K Q := fun v hv => by
        rcases h v hv with hh | ⟨hasks, hl⟩
        · exact hh
        · exfalso
          refine hlet ⟨?_, hl⟩
          unfold Oper.asks at *
          rw [execOp_put oj hsj a oi.dst v h1] at hasks
          exact hasks
      have he : ∀ v, execOp (a.put oi.dst v).eval oj = execOp a.eval oj := fun v => execOp_put oj hsj a oi.dst v h1
      have hn : (∀ w', (∀ f args, (execOp a.eval oj).run P w ≠ .ok (.enter f args) w') ∧ ∀ row args, (execOp a.eval oj).run P w ≠ .ok (.row row args) w') ∨ ∀ v v', R v → R v' → v = v' :=
        hno.elim (fun h => .inl fun w' => h a w w') (fun h => .inr h)
      unfold Oper.wp at *
      simp only [he] at h'
      generalize (execOp a.eval oj).run P w = r at *
      cases r with
      | ok n w' =>
        cases n <;> simp only [Oper.upon] at h' ⊢
        case value u => exact ⟨keep a hy u, fun v hv => by rw [← Act.put_comm a v u h2]; exact h' v hv⟩
        case skip => exact ⟨keep a hy _, fun v hv => by rw [← Act.put_comm a v undef h2]; exact h' v hv⟩
        case defer d =>
          refine ⟨keep _ (keepD d) _, fun v hv => ?_⟩
          rw [← Act.put_comm _ v undef h2, ← Act.put_defers]
          exact h' v hv
        case enter f args =>
          rcases hn with hn | hone
          · exact absurd rfl ((hn w').1 f args)
          · refine (h' v0 hv0).mono ?_
            intro e w'' he
            cases e with
            | returned u => exact ⟨keep a hy u, fun v hv => by obtain rfl := hone v v0 hv hv0; rw [← Act.put_comm a v u h2]; exact he⟩
            | panicked c => exact hQ v0 hv0 _ _ _ he
            | outgrown => exact he
        case row row args =>
          rcases hn with hn | hone
          · exact absurd rfl ((hn w').2 row args)
          · refine (h' v0 hv0).mono ?_
            intro u w'' he
            exact ⟨keep a hy u, fun v hv => by obtain rfl := hone v v0 hv hv0; rw [← Act.put_comm a v u h2]; exact he⟩
        all_goals exact h' v0 hv0
      | halt x w' =>
        cases x <;> simp only [Oper.upon] at h' ⊢
        case panic u => exact hQ v0 hv0 _ _ _ (h' v0 hv0)
        all_goals exact h' v0 hv0
  · rename_i hw
    simp only [hw] at h
    exact ⟨keep a hy _, fun v hv => by rw [← Act.put_comm a v undef h2]; exact h v hv⟩

/-- What stands in L hangs, by way of L, on i. -/
def hangsB (md : Region.Mode) (ops : Array Oper) (listed : Array Bool) (i : Nat) (L : List Nat) : Bool :=
  L.all fun j => !(listed.getD j true) && match ops[j]? with
    | some o => o.after.any fun e => Region.binds md e && (e.on == i || L.contains e.on)
    | none => false

theorem wpAnyD_firstC {i : Nat} {oi : Oper} (L : List Nat) (hi : ops[i]? = some oi) (hsel : ∀ (j : Nat) (o : Oper) cs b, ops[j]? = some o → o.op ≠ .select cs b) (hne : ∃ v, R v)
    (hSd : ∀ w d, S w → S (w.drewN d)) (hQ : ∀ v, R v → ∀ c a w, Q (.panic c) (a.put oi.dst v) w → Q (.panic c) a w)
    (hL : ∀ j, j ∈ L → ∃ o, ops[j]? = some o ∧ ∃ e, e ∈ o.after ∧ Region.binds md e = true ∧ (e.on = i ∨ e.on ∈ L)) :
    ∀ (fuel : Nat) (listed : Array Bool) (a : Act) (w : World), (∀ j, j ∈ L → listed.getD j true = false) →
      (∀ j oj, ops[j]? = some oj → j ≠ i → listed.getD j true = false → j ∉ L → (∀ e ∈ oj.after, Region.binds md e = true → e.on ≠ i) → oi.apart ops oj = true ∧ (NoEnter P oj ∨ ∀ v v', R v → R v' → v = v')) →
      i ∈ Region.ready md ops listed → GivesC P ops S R oi a → S w →
      (∀ v, R v → wpAnyD P md ops Q S fuel (listed.setIfInBounds i true) (a.put oi.dst v) w) → wpAnyD P md ops Q S (fuel + 1) listed a w := by
  intro fuel
  induction fuel with
  | zero =>
    intro listed a w _ _ hr hy hS H
    refine ⟨fun h => (by rw [h] at hr; cases hr), fun j hj d => ?_⟩
    by_cases hji : j = i
    · subst hji
      exact hy.wpOp hi (hSd _ _ hS) fun v d' hv => ⟨hSd _ _ (hSd _ _ hS), wpAnyD_drewN _ _ _ _ _ (wpAnyD_drewN _ _ _ _ _ (H v hv))⟩
    · have := ready_mono hj hji
      obtain ⟨v0, hv0⟩ := hne
      rw [(H v0 hv0).1] at this
      cases this
  | succ fuel ih =>
    intro listed a w hLu hfree hr hy hS H
    refine ⟨fun h => (by rw [h] at hr; cases hr), fun j hj d => ?_⟩
    by_cases hji : j = i
    · subst hji
      exact hy.wpOp hi (hSd _ _ hS) fun v d' hv => ⟨hSd _ _ (hSd _ _ hS), wpAnyD_drewN _ _ _ _ _ (wpAnyD_drewN _ _ _ _ _ (H v hv))⟩
    · have h1 := fun v hv => (H v hv).2 j (ready_mono hj hji) d
      obtain ⟨hjun, oj, hoj, hall⟩ := mem_ready.1 hj
      have h0 := (mem_ready.1 hr).1
      have hup : ∀ k, listed[k]? = some true → listed.getD k true = true := fun k h => by
        rcases Nat.lt_or_ge k listed.size with h' | h'
        · simp [h'] at h ⊢; exact h
        · simp [Array.getElem?_eq_none h'] at h
      have hnot : ∀ e ∈ oj.after, Region.binds md e = true → e.on ≠ i := fun e he hb heq => by
        have h1 := hall e he hb
        rw [heq] at h1
        rcases Nat.lt_or_ge i listed.size with h' | h'
        · simp [h'] at h0 h1; rw [h0] at h1; cases h1
        · simp [Array.getElem?_eq_none h'] at h1
      have hjL : j ∉ L := fun hj => by
        obtain ⟨o, ho, e, he, hb, hon⟩ := hL j hj
        obtain rfl : oj = o := by rw [hoj] at ho; injection ho
        rcases hon with hon | hon
        · exact hnot e he hb hon
        · have h1 := hall e he hb
          have h2 := hLu _ hon
          rcases Nat.lt_or_ge e.on listed.size with h' | h'
          · simp [h'] at h1 h2; rw [h2] at h1; cases h1
          · simp [Array.getElem?_eq_none h'] at h1
      obtain ⟨hap, hno⟩ := hfree j oj hoj hji hjun hjL hnot
      have h2 := wpOp_putC hoj hap (fun cs b => hsel i oi cs b hi) (fun cs b => hsel j oj cs b hoj) hne hno hQ hy h1
      have hfree' : ∀ k ok, ops[k]? = some ok → k ≠ i → (listed.setIfInBounds j true).getD k true = false → k ∉ L →
          (∀ e ∈ ok.after, Region.binds md e = true → e.on ≠ i) → oi.apart ops ok = true ∧ (NoEnter P ok ∨ ∀ v v', R v → R v' → v = v') := fun k ok hk hki hun hkL hno => by
        refine hfree k ok hk hki ?_ hkL hno
        by_cases hjk : j = k
        · subst hjk; exact hjun
        · rw [getD_set_ne true hjk] at hun; exact hun
      have hLu' : ∀ k, k ∈ L → (listed.setIfInBounds j true).getD k true = false := fun k hk => by
        have hjk : j ≠ k := fun h => hjL (h ▸ hk)
        rw [getD_set_ne true hjk]
        exact hLu k hk
      refine wpOp_mono (fun a' w' h3 => ?_) h2
      obtain ⟨v0, hv0⟩ := hne
      refine ⟨(h3.2 v0 hv0).1, ih (listed.setIfInBounds j true) a' w' hLu' hfree' (ready_mono hr (Ne.symm hji)) h3.1 (h3.2 v0 hv0).1 fun v hv => ?_⟩
      rw [Array.setIfInBounds_comm _ _ hji]
      exact (h3.2 v hv).2

theorem hangs_spec {listed : Array Bool} {i : Nat} {L : List Nat} (h : hangsB md ops listed i L = true) : (∀ j, j ∈ L → ∃ o, ops[j]? = some o ∧ ∃ e, e ∈ o.after ∧ Region.binds md e = true ∧ (e.on = i ∨ e.on ∈ L)) ∧ ∀ j, j ∈ L → listed.getD j true = false := by
  have h1 := List.all_eq_true.1 h
  refine ⟨fun j hj => ?_, fun j hj => ?_⟩
  · have h2 := h1 j hj
    cases ho : ops[j]? with
    | none => simp [ho] at h2
    | some o =>
      simp only [ho, Bool.and_eq_true] at h2
      obtain ⟨e, he, hb⟩ := Array.any_eq_true'.1 h2.2
      simp at hb
      exact ⟨o, rfl, e, he, hb.1, hb.2⟩
  · have h2 := h1 j hj
    simp only [Bool.and_eq_true, Bool.not_eq_true'] at h2
    exact h2.1

/-- All that has not come up, but i and L, is plain. -/
def plainBut (ops : Array Oper) (listed : Array Bool) (i : Nat) (L : List Nat) : Bool := (List.range ops.size).all fun j => listed.getD j true || j == i || L.contains j || (ops[j]?.map plainB).getD true

theorem wpAnyD_takeC (R : Value → Prop) (L : List Nat) {i : Nat} {oi : Oper} {fuel : Nat} {listed : Array Bool} {a : Act} {w : World} (hi : ops[i]? = some oi)
    (hs : Region.noSelect ops = true) (hf : Region.free md ops listed i = true) (hp : plainBut ops listed i L = true) (hl : hangsB md ops listed i L = true) (hr : (Region.ready md ops listed).contains i = true) (hne : ∃ v, R v) (hSd : ∀ w d, S w → S (w.drewN d))
    (hQ : ∀ v, R v → ∀ c a w, Q (.panic c) (a.put oi.dst v) w → Q (.panic c) a w) (hy : GivesC P ops S R oi a) (hS : S w)
    (h : ∀ v, R v → wpAnyD P md ops Q S fuel (listed.setIfInBounds i true) (a.put oi.dst v) w) : wpAnyD P md ops Q S (fuel + 1) listed a w :=
  wpAnyD_firstC L hi (Region.noSelect_spec hs) hne hSd hQ (hangs_spec hl).1 fuel listed a w (hangs_spec hl).2 (fun j oj hj hji hun hjL hno => ⟨Region.free_spec hi hf j oj hj hji hun hno, by
    refine .inl (noEnter_of ?_)
    have h1 := List.all_eq_true.1 hp j (List.mem_range.2 (Array.getElem?_eq_some_iff.1 hj).1)
    rw [hun, hj] at h1
    simpa [hji, hjL] using h1⟩) (by simpa using hr) hy hS h

theorem wpAnyD_takeOne (v : Value) {i : Nat} {oi : Oper} {fuel : Nat} {listed : Array Bool} {a : Act} {w : World} (hi : ops[i]? = some oi)
    (hs : Region.noSelect ops = true) (hf : Region.free md ops listed i = true) (hr : (Region.ready md ops listed).contains i = true) (hSd : ∀ w d, S w → S (w.drewN d))
    (hQ : ∀ c a w, Q (.panic c) (a.put oi.dst v) w → Q (.panic c) a w) (hy : GivesC P ops S (fun x => x = v) oi a) (hS : S w)
    (h : wpAnyD P md ops Q S fuel (listed.setIfInBounds i true) (a.put oi.dst v) w) : wpAnyD P md ops Q S (fuel + 1) listed a w :=
  wpAnyD_firstC (R := fun x => x = v) [] hi (Region.noSelect_spec hs) ⟨v, rfl⟩ hSd (fun _ e => by rw [e]; exact hQ) (fun _ h => by cases h) fuel listed a w (fun _ h => by cases h) (fun j oj hj hji hun _ hno => ⟨Region.free_spec hi hf j oj hj hji hun hno, .inr fun _ _ h h' => h.trans h'.symm⟩) (by simpa using hr) hy hS (fun _ e => by rw [e]; exact h)

end

section
variable {ops : Array Oper} {Q : Exit → Act → World → Prop} {S : World → Prop}

/-- Take an operation that gives one value. -/
theorem getV (i : Nat) {oi : Oper} (v : Value) {fuel : Nat} {listed : Array Bool} {a : Act} {w : World} (hi : ops[i]? = some oi) (dst : Option Tmp) (hd : oi.dst = dst)
    (hs : Region.noSelect ops = true) (hf : Region.free .any ops listed i = true) (hr : (Region.ready .any ops listed).contains i = true)
    (hw : Region.wanted oi (yielded ops a.tmps) = true) (hSd : Calm S) (hS : S w) (hx : ∀ w, S w → (execOp a.eval oi).run Yba.prog w = .ok (.value v) w)
    (h : wpAnyD Yba.prog .any ops (NoPanic Q) S fuel (listed.setIfInBounds i true) (a.put dst v) w) : wpAnyD Yba.prog .any ops (NoPanic Q) S (fuel + 1) listed a w :=
  wpAnyD_takeOne v hi hs hf hr hSd (fun _ _ _ h => by exact absurd h (by simp [NoPanic])) ⟨hw, fun w' hS' => .inl ⟨v, 0, rfl, hx w' hS'⟩⟩ hS (hd ▸ h)

/-- Take a float operation. -/
theorem getF (i : Nat) (L : List Nat) {oi : Oper} (op : BinOp) (t t2 : TypeId) (sx sy : Operand) (x y : Nat) {fuel : Nat} {listed : Array Bool} {a : Act} {w : World} (hi : ops[i]? = some oi)
    (ho : oi.op = .binOp op t sx sy t2) (hop : op = .add ∨ op = .sub ∨ op = .mul ∨ op = .quo) (dst : Option Tmp) (hd : oi.dst = dst)
    (hs : Region.noSelect ops = true) (hf : Region.free .any ops listed i = true) (hp : plainBut ops listed i L = true) (hl : hangsB .any ops listed i L = true) (hr : (Region.ready .any ops listed).contains i = true)
    (hw : Region.wanted oi (yielded ops a.tmps) = true) (hSd : Calm S) (hS : S w) (hx : a.eval sx = .float .f64 x) (hy : a.eval sy = .float .f64 y)
    (h : ∀ r, Hid (Gives (floatBits op .f64 x y) r) → wpAnyD Yba.prog .any ops (NoPanic Q) S fuel (listed.setIfInBounds i true) (a.put dst (.float .f64 r)) w) : wpAnyD Yba.prog .any ops (NoPanic Q) S (fuel + 1) listed a w :=
  wpAnyD_takeC (FV op x y) L hi hs hf hp hl hr ⟨_, _, rfl, gives_fop op x y w⟩ hSd (fun _ _ _ _ _ h => by exact absurd h (by simp [NoPanic])) ⟨hw, fun w' _ => .inl (exec_float op t t2 sx sy ho hop x y hx hy w')⟩ hS (fun _ e => by obtain ⟨r, rfl, hg⟩ := e; rw [hd]; exact h r hg)

/-- Take a call that only draws. -/
theorem getC (i : Nat) (L : List Nat) {oi : Oper} (f : FuncId) (args : Array Value) (R : Value → Prop) {fuel : Nat} {listed : Array Bool} {a : Act} {w : World} (hi : ops[i]? = some oi) (dst : Option Tmp) (hd : oi.dst = dst)
    (hs : Region.noSelect ops = true) (hf : Region.free .any ops listed i = true) (hp : plainBut ops listed i L = true) (hl : hangsB .any ops listed i L = true) (hr : (Region.ready .any ops listed).contains i = true)
    (hw : Region.wanted oi (yielded ops a.tmps) = true) (hSd : Calm S) (hS : S w) (hne : ∃ v, R v) (hx : ∀ w, S w → (execOp a.eval oi).run Yba.prog w = .ok (.enter f args) w)
    (hc : ∀ w, S w → Calls Yba.prog f args w fun e w' => ∃ v d, R v ∧ e = .returned v ∧ w' = w.drewN d)
    (h : ∀ v, R v → wpAnyD Yba.prog .any ops (NoPanic Q) S fuel (listed.setIfInBounds i true) (a.put dst v) w) : wpAnyD Yba.prog .any ops (NoPanic Q) S (fuel + 1) listed a w :=
  wpAnyD_takeC R L hi hs hf hp hl hr hne hSd (fun _ _ _ _ _ h => by exact absurd h (by simp [NoPanic])) ⟨hw, fun w' hS' => .inr ⟨f, args, hx w' hS', hc w' hS'⟩⟩ hS (hd ▸ h)

/-- One call alone is ready. -/
theorem soleC (i : Nat) {oi : Oper} (f : FuncId) (args : Array Value) (R : Value → World → Prop) {fuel : Nat} {listed : Array Bool} {a : Act} {w : World} (hi : ops[i]? = some oi) (dst : Option Tmp) (hd : oi.dst = dst)
    (hr : Region.ready .any ops listed = [i]) (hw : Region.wanted oi (yielded ops a.tmps) = true) (hx : ∀ d, (execOp a.eval oi).run Yba.prog (w.drewN d) = .ok (.enter f args) (w.drewN d))
    (hc : ∀ d, Calls Yba.prog f args (w.drewN d) fun e w' => ∃ v, e = .returned v ∧ S w' ∧ R v w')
    (h : ∀ v w', S w' → R v w' → wpAnyD Yba.prog .any ops (NoPanic Q) S fuel (listed.setIfInBounds i true) (a.put dst v) w') : wpAnyD Yba.prog .any ops (NoPanic Q) S (fuel + 1) listed a w := by
  subst hd
  refine wpAnyD_all hr (by simp) ?_
  intro j hj d
  obtain rfl : j = i := by simpa using hj
  unfold wpOp
  simp only [hi, hw, if_true]
  refine .inl ?_
  unfold Oper.wp
  rw [hx d]
  refine (hc d).mono ?_
  rintro e w' ⟨v, rfl, hS', hR⟩
  exact ⟨hS', h v w' hS' hR⟩

theorem wayV (i : Nat) {oi : Oper} (v : Value) (w1 : World) {fuel : Nat} {listed : Array Bool} {a : Act} {w : World} (hi : ops[i]? = some oi) (dst : Option Tmp) (hd : oi.dst = dst)
    (hw : Region.wanted oi (yielded ops a.tmps) = true) (hSd : Calm S) (hS : S w1) (hx : ∀ d, (execOp a.eval oi).run Yba.prog (w.drewN d) = .ok (.value v) (w1.drewN d))
    (h : wpAnyD Yba.prog .any ops (NoPanic Q) S fuel (listed.setIfInBounds i true) (a.put dst v) w1) (d : Nat) :
    wpOp Yba.prog ops (NoPanic Q) i (fun a' w' => S w' ∧ wpAnyD Yba.prog .any ops (NoPanic Q) S fuel (listed.setIfInBounds i true) a' w') a (w.drewN d) := by
  subst hd
  unfold wpOp
  simp only [hi, hw, if_true]
  refine .inl ?_
  unfold Oper.wp
  rw [hx d]
  exact ⟨hSd _ _ hS, wpAnyD_drewN _ _ _ _ _ h⟩

theorem wayC (i : Nat) {oi : Oper} (f : FuncId) (args : Array Value) (R : Value → World → Prop) {fuel : Nat} {listed : Array Bool} {a : Act} {w : World} (hi : ops[i]? = some oi) (dst : Option Tmp) (hd : oi.dst = dst)
    (hw : Region.wanted oi (yielded ops a.tmps) = true) (hx : ∀ d, (execOp a.eval oi).run Yba.prog (w.drewN d) = .ok (.enter f args) (w.drewN d))
    (hc : ∀ d, Calls Yba.prog f args (w.drewN d) fun e w' => ∃ v, e = .returned v ∧ S w' ∧ R v w')
    (h : ∀ v w', S w' → R v w' → wpAnyD Yba.prog .any ops (NoPanic Q) S fuel (listed.setIfInBounds i true) (a.put dst v) w') (d : Nat) :
    wpOp Yba.prog ops (NoPanic Q) i (fun a' w' => S w' ∧ wpAnyD Yba.prog .any ops (NoPanic Q) S fuel (listed.setIfInBounds i true) a' w') a (w.drewN d) := by
  subst hd
  unfold wpOp
  simp only [hi, hw, if_true]
  refine .inl ?_
  unfold Oper.wp
  rw [hx d]
  refine (hc d).mono ?_
  rintro e w' ⟨v, rfl, hS', hR⟩
  exact ⟨hS', h v w' hS' hR⟩

/-- Two operations are ready. -/
theorem both (i j : Nat) {fuel : Nat} {listed : Array Bool} {a : Act} {w : World} (hr : Region.ready .any ops listed = [i, j])
    (h1 : ∀ d, wpOp Yba.prog ops (NoPanic Q) i (fun a' w' => S w' ∧ wpAnyD Yba.prog .any ops (NoPanic Q) S fuel (listed.setIfInBounds i true) a' w') a (w.drewN d))
    (h2 : ∀ d, wpOp Yba.prog ops (NoPanic Q) j (fun a' w' => S w' ∧ wpAnyD Yba.prog .any ops (NoPanic Q) S fuel (listed.setIfInBounds j true) a' w') a (w.drewN d)) :
    wpAnyD Yba.prog .any ops (NoPanic Q) S (fuel + 1) listed a w := by
  refine wpAnyD_all hr (by simp) ?_
  intro k hk d
  rcases (show k = i ∨ k = j by simpa using hk) with rfl | rfl
  · exact h1 d
  · exact h2 d

end
end Go.Proofs.Ybulkavii.A
