/-
  Seat b2335a, laws A: the rule of YbulkaviiRel at a post without panics: an operation that gives one value; a float operation.
-/
import Derived.Test.YbulkaviiRel
import Derived.Deep.RegionHeld3
namespace Go.Proofs.Ybulkavii.A
open Go Go.RowKit

/-- The values of a float operation. -/
def FV (op : BinOp) (x y : Nat) (v : Value) : Prop := ∃ r, v = .float .f64 r ∧ Hid (Gives (floatBits op .f64 x y) r)
theorem exec_float {o : Oper} {a : Act} (op : BinOp) (t t2 : TypeId) (sx sy : Operand) (ho : o.op = .binOp op t sx sy t2) (hop : op = .add ∨ op = .sub ∨ op = .mul ∨ op = .quo)
    (x y : Nat) (hx : a.eval sx = .float .f64 x) (hy : a.eval sy = .float .f64 y) (w : World) : ∃ v d, FV op x y v ∧ (execOp a.eval o).run Yba.prog w = .ok (.value v) (w.drewN d) := by
  have hr := run_fop op hop t x y w
  have hg : (eqGuard op t sx sy (.float .f64 x) (.float .f64 y)).run Yba.prog w = .ok () w := by
    rcases hop with rfl | rfl | rfl | rfl <;> rfl
  refine ⟨.float .f64 (fq (floatBits op .f64 x y) w x y), fd (floatBits op .f64 x y), ⟨_, rfl, gives_fop op x y w⟩, ?_⟩
  unfold execOp
  simp only [ho, Sem.run_bind, hx, hy, hg, hr, Result.andThen_ok, Sem.run_pure]

/-- S does not hang on the number of draws. -/
def Calm (S : World → Prop) : Prop := ∀ w d, S w → S (w.drewN d)

section
variable {ops : Array Oper} {Q : Exit → Act → World → Prop} {S : World → Prop}

theorem takeV (i : Nat) {oi : Oper} (v : Value) {fuel : Nat} {listed : Array Bool} {a : Act} {w : World} (hi : ops[i]? = some oi)
    (dst : Option Tmp) (hd : oi.dst = dst) (hs : Region.noSelect ops = true) (hf : Region.free .any ops listed i = true) (hp : plainAll ops listed = true) (hr : (Region.ready .any ops listed).contains i = true)
    (hw : Region.wanted oi (yielded ops a.tmps) = true) (hSd : Calm S) (hS : S w) (hx : ∀ w, S w → (execOp a.eval oi).run Yba.prog w = .ok (.value v) w)
    (h : wpAnyD Yba.prog .any ops (NoPanic Q) S fuel (listed.setIfInBounds i true) (a.put dst v) w) : wpAnyD Yba.prog .any ops (NoPanic Q) S (fuel + 1) listed a w :=
  wpAnyD_take (fun x => x = v) hi hs hf hp hr ⟨_, rfl⟩ hSd (fun _ _ _ _ _ h => by exact absurd h (by simp [NoPanic])) (.inl ⟨hw, fun w' hS' => ⟨v, 0, rfl, hx w' hS'⟩⟩) hS (fun _ e => by rw [e, hd]; exact h)

theorem takeF (i : Nat) {oi : Oper} (op : BinOp) (t t2 : TypeId) (sx sy : Operand) (x y : Nat) {fuel : Nat} {listed : Array Bool} {a : Act} {w : World} (hi : ops[i]? = some oi)
    (ho : oi.op = .binOp op t sx sy t2) (hop : op = .add ∨ op = .sub ∨ op = .mul ∨ op = .quo)
    (dst : Option Tmp) (hd : oi.dst = dst) (hs : Region.noSelect ops = true) (hf : Region.free .any ops listed i = true) (hp : plainAll ops listed = true) (hr : (Region.ready .any ops listed).contains i = true)
    (hw : Region.wanted oi (yielded ops a.tmps) = true) (hSd : Calm S) (hS : S w) (hx : a.eval sx = .float .f64 x) (hy : a.eval sy = .float .f64 y)
    (h : ∀ r, Hid (Gives (floatBits op .f64 x y) r) → wpAnyD Yba.prog .any ops (NoPanic Q) S fuel (listed.setIfInBounds i true) (a.put dst (.float .f64 r)) w) : wpAnyD Yba.prog .any ops (NoPanic Q) S (fuel + 1) listed a w :=
  wpAnyD_take (FV op x y) hi hs hf hp hr ⟨_, _, rfl, gives_fop op x y w⟩ hSd (fun _ _ _ _ _ h => by exact absurd h (by simp [NoPanic])) (.inl ⟨hw, fun w' _ => exec_float op t t2 sx sy ho hop x y hx hy w'⟩) hS (fun _ e => by obtain ⟨r, rfl, hg⟩ := e; rw [hd]; exact h r hg)

/-- One operation alone is ready; it gives a value, and turns the world. -/
theorem soleV (i : Nat) {oi : Oper} (v : Value) (w1 : World) {fuel : Nat} {listed : Array Bool} {a : Act} {w : World} (hi : ops[i]? = some oi)
    (dst : Option Tmp) (hd : oi.dst = dst) (hr : Region.ready .any ops listed = [i]) (hw : Region.wanted oi (yielded ops a.tmps) = true) (hSd : Calm S) (hS : S w1) (hx : ∀ d, (execOp a.eval oi).run Yba.prog (w.drewN d) = .ok (.value v) (w1.drewN d))
    (h : wpAnyD Yba.prog .any ops (NoPanic Q) S fuel (listed.setIfInBounds i true) (a.put dst v) w1) : wpAnyD Yba.prog .any ops (NoPanic Q) S (fuel + 1) listed a w := by
  subst hd
  refine wpAnyD_all hr (by simp) ?_
  intro j hj d
  obtain rfl : j = i := by simpa using hj
  unfold wpOp
  simp only [hi, hw, if_true]
  refine .inl ?_
  unfold Oper.wp
  rw [hx d]
  exact ⟨hSd _ _ hS, wpAnyD_drewN _ _ _ _ _ h⟩

theorem soleS (i : Nat) {oi : Oper} (w1 : World) {fuel : Nat} {listed : Array Bool} {a : Act} {w : World} (hi : ops[i]? = some oi)
    (dst : Option Tmp) (hd : oi.dst = dst) (hr : Region.ready .any ops listed = [i]) (hw : Region.wanted oi (yielded ops a.tmps) = true) (hSd : Calm S) (hS : S w1) (hx : ∀ d, (execOp a.eval oi).run Yba.prog (w.drewN d) = .ok .skip (w1.drewN d))
    (h : wpAnyD Yba.prog .any ops (NoPanic Q) S fuel (listed.setIfInBounds i true) (a.put dst undef) w1) : wpAnyD Yba.prog .any ops (NoPanic Q) S (fuel + 1) listed a w := by
  subst hd
  refine wpAnyD_all hr (by simp) ?_
  intro j hj d
  obtain rfl : j = i := by simpa using hj
  unfold wpOp
  simp only [hi, hw, if_true]
  refine .inl ?_
  unfold Oper.wp
  rw [hx d]
  exact ⟨hSd _ _ hS, wpAnyD_drewN _ _ _ _ _ h⟩

theorem doneD {fuel : Nat} {listed : Array Bool} {a : Act} {w : World} (hr : Region.ready .any ops listed = []) (h : ∀ d, Q .normal a (w.drewN d)) : wpAnyD Yba.prog .any ops (NoPanic Q) S fuel listed a w :=
  wpAnyD_done (Q := NoPanic Q) hr (fun d => NoPanic.normal (h d)) fuel

end
end Go.Proofs.Ybulkavii.A
