/-
  Seat b2335a, laws A: a float operation gives some bits, at the cost of some draws: the laws for a walk; math.FMA, sqrt, archHypot, Float64bits, Float64frombits.
-/
import Derived.Test.YbulkaviiBits
import Derived.Laws.Externs
namespace Go.Proofs.Ybulkavii.A
open Go Go.RowKit

/-- The bits that the tape gives for an invalid operation. -/
def nanOf (w : World) (x y : Nat) : Nat := (Question.nanBits .f64 x y).cut (w.tape w.drawn (.nanBits .f64 x y))
/-- What an operation gives: its own bits, or a NaN from the tape. -/
def fq (o : Option Nat) (w : World) (x y : Nat) : Nat := match o with | some r => r | none => nanOf w x y
/-- How many draws it costs. -/
def fd (o : Option Nat) : Nat := match o with | some _ => 0 | none => 1

@[simp] theorem fqs (v : Nat) (w : World) (x y : Nat) : fq (some v) w x y = v := rfl
@[simp] theorem fds (v : Nat) : fd (some v) = 0 := rfl
theorem fq_some {o : Option Nat} {v : Nat} (h : o = some v) (w : World) (x y : Nat) : fq o w x y = v := by subst h; rfl
theorem fd_some {o : Option Nat} {v : Nat} (h : o = some v) : fd o = 0 := by subst h; rfl

theorem nanOf_lt (w : World) (x y : Nat) : nanOf w x y < 2 ^ 64 := by
  unfold nanOf Question.cut
  simp only
  omega

theorem fq_lt {o : Option Nat} (h : ∀ v, o = some v → v < 2 ^ 64) (w : World) (x y : Nat) : fq o w x y < 2 ^ 64 := by
  cases o with
  | some v => exact h v rfl
  | none => exact nanOf_lt w x y

theorem run_nan (x y : Nat) (w : World) : (choose (.nanBits .f64 x y)).run Yba.prog w = .ok (nanOf w x y) w.drew := by
  rw [run_choose_drew]
  rfl

theorem run_fop (op : BinOp) (hop : op = .add ∨ op = .sub ∨ op = .mul ∨ op = .quo) (t : TypeId) (x y : Nat) (w : World) :
    (binOp op t (.float .f64 x) (.float .f64 y)).run Yba.prog w = .ok (.float .f64 (fq (floatBits op .f64 x y) w x y)) (w.drewN (fd (floatBits op .f64 x y))) := by
  cases h : floatBits op .f64 x y with
  | some r => exact run_float_arith w op t .f64 x y r h
  | none =>
    rcases hop with rfl | rfl | rfl | rfl
    all_goals
      simp only [floatBits] at h
      simp [binOp, Op.floatArith, h]
      rfl

abbrev ng (x : Nat) : Nat := Op.negFloat .f64 x
theorem run_ng (x : Nat) (w : World) : (Op.unary .neg (.float .f64 x)).run Yba.prog w = .ok (.float .f64 (ng x)) w := rfl
theorem ng_lt {x : Nat} (h : x < 2 ^ 64) : ng x < 2 ^ 64 := Nat.xor_lt_two_pow h (by decide)

theorem fop_lt (op : BinOp) (x y : Nat) (w : World) (a b : Nat) : fq (floatBits op .f64 x y) w a b < 2 ^ 64 :=
  fq_lt (fun v hv => by
    have h := floatBits_wf hv
    simpa [Lit.wf] using h) w a b

/-- What an operation may give. -/
def Gives (o : Option Nat) (r : Nat) : Prop := r < 2 ^ 64 ∧ ∀ v, o = some v → r = v

theorem gives_fop (op : BinOp) (x y : Nat) (w : World) : Gives (floatBits op .f64 x y) (fq (floatBits op .f64 x y) w x y) := ⟨fop_lt _ _ _ _ _ _, fun _ h => fq_some h _ _ _⟩

section
variable (w : World)
theorem wp_float {o : Oper} {a : Act} {K : Act → World → Prop} {Q : Exit → Act → World → Prop} (op : BinOp) (t t2 : TypeId) (sx sy : Operand) (ho : o.op = .binOp op t sx sy t2) (hop : op = .add ∨ op = .sub ∨ op = .mul ∨ op = .quo)
    (x y : Nat) (hx : a.eval sx = .float .f64 x) (hy : a.eval sy = .float .f64 y) (h : ∀ r d, Hid (Gives (floatBits op .f64 x y) r) → K (a.put o.dst (.float .f64 r)) (w.drewN d)) : o.wp Yba.prog a w K Q := by
  have hr := run_fop op hop t x y w
  have hg : (eqGuard op t sx sy (.float .f64 x) (.float .f64 y)).run Yba.prog w = .ok () w := by
    rcases hop with rfl | rfl | rfl | rfl <;> rfl
  unfold Oper.wp execOp
  simp only [ho, Sem.run_bind, hx, hy, hg, hr, Result.andThen_ok, Sem.run_pure]
  exact h _ _ (gives_fop op x y w)

theorem wpList_float {ops : Array Oper} {rest : List Oper} {o : Oper} {a : Act} {Q : Exit → Act → World → Prop} (hgd : o.guard = none) (op : BinOp) (t t2 : TypeId) (sx sy : Operand) (ho : o.op = .binOp op t sx sy t2) (hop : op = .add ∨ op = .sub ∨ op = .mul ∨ op = .quo)
    (x y : Nat) (hx : a.eval sx = .float .f64 x) (hy : a.eval sy = .float .f64 y) (h : ∀ r d, Hid (Gives (floatBits op .f64 x y) r) → wpList Yba.prog ops Q rest (a.put o.dst (.float .f64 r)) (w.drewN d)) : wpList Yba.prog ops Q (o :: rest) a w :=
  wpList_plain hgd fun _ hK => wp_float w op t t2 sx sy ho hop x y hx hy fun r d hr => hK _ _ (h r d hr)

theorem step_float {ops : Array Oper} {o : Oper} {a : Act} {K : Act → World → Prop} {Q : Exit → Act → World → Prop} {E : Prop} (hgd : o.guard = none) (op : BinOp) (t t2 : TypeId) (sx sy : Operand) (ho : o.op = .binOp op t sx sy t2) (hop : op = .add ∨ op = .sub ∨ op = .mul ∨ op = .quo)
    (x y : Nat) (hx : a.eval sx = .float .f64 x) (hy : a.eval sy = .float .f64 y) (h : ∀ r d, Hid (Gives (floatBits op .f64 x y) r) → K (a.put o.dst (.float .f64 r)) (w.drewN d)) :
    if Region.wanted o (yielded ops a.tmps) = true then Oper.wp Yba.prog o a w K Q else E := by
  have hw : Region.wanted o (yielded ops a.tmps) = true := by simp [Region.wanted, hgd]
  rw [if_pos hw]
  exact wp_float w op t t2 sx sy ho hop x y hx hy h
end

@[go_sem] theorem run_store_float (P : Program) (w : World) (a : Addr) (m : Mode) (k : FloatKind) (b : Nat) : (store a (.float k b) m).run P w = stored P w a (.float k b) m := run_store P w a _ m rfl
theorem alloc_drewN (w : World) (n : Nat) (o : Obj) : (w.drewN n).alloc o = (w.alloc o).drewN n := rfl
theorem setCell_drewN (w : World) (n : Nat) (a : Addr) (v : Value) : (w.drewN n).setCell a v = (w.setCell a v).drewN n := rfl

/-! ### The functions without a Go body -/
def fma (x y z : Nat) : Option Nat := FloatKind.f64.format.fma x y z
/-- Which operands the tape is asked about. -/
def fmaA (x y z : Nat) : Nat × Nat := if Extern.MathFMA.isNaN x then (x, y) else if Extern.MathFMA.isNaN y then (y, z) else (z, z)

theorem fma_eq (x y z : Nat) : Extern.MathFMA.fma #[.float .f64 x, .float .f64 y, .float .f64 z] = (match fma x y z with
    | some r => pure (.float .f64 r)
    | none => (choose (.nanBits .f64 (fmaA x y z).1 (fmaA x y z).2)) >>= fun b => pure (.float .f64 b)) := by
  unfold fmaA fma
  cases h : FloatKind.f64.format.fma x y z with
  | some r =>
    show (match FloatKind.f64.format.fma x y z with
      | some r => (pure (.float .f64 r) : Sem Value)
      | none => _) = _
    rw [h]
  | none =>
    show (match FloatKind.f64.format.fma x y z with
      | some r => (pure (.float .f64 r) : Sem Value)
      | none => _) = _
    rw [h]

theorem run_fma (x y z : Nat) (w : World) : (callFunc 27 #[.float .f64 x, .float .f64 y, .float .f64 z]).run Yba.prog w = .ok (.value (.float .f64 (fq (fma x y z) w (fmaA x y z).1 (fmaA x y z).2))) (w.drewN (fd (fma x y z))) := by
  rw [run_callFunc_extern (e := Extern.MathFMA.fma) Yba.func27 (by kernel_rfl) (by kernel_rfl) (by kernel_rfl) (by kernel_rfl), fma_eq]
  cases h : fma x y z with
  | some r => rfl
  | none =>
    simp only [Sem.run_bind, run_nan]
    rfl

def sqt (x : Nat) : Option Nat := FloatKind.f64.format.sqrt x
theorem sqt_eq (x : Nat) : Extern.MathSqrt.sqrt #[.float .f64 x] = (match sqt x with
    | some r => pure (.float .f64 r)
    | none => (choose (.nanBits .f64 x x)) >>= fun b => pure (.float .f64 b)) := by
  unfold sqt
  rfl
theorem run_sqtV (x : Nat) (w : World) : (Extern.MathSqrt.sqrt #[.float .f64 x]).run Yba.prog w = .ok (.float .f64 (fq (sqt x) w x x)) (w.drewN (fd (sqt x))) := by
  rw [sqt_eq]
  cases h : sqt x with
  | some r => rfl
  | none =>
    simp only [Sem.run_bind, run_nan]
    rfl
theorem run_sqt (x : Nat) (w : World) : (callFunc 34 #[.float .f64 x]).run Yba.prog w = .ok (.value (.float .f64 (fq (sqt x) w x x))) (w.drewN (fd (sqt x))) := by
  rw [run_callFunc_extern (e := Extern.MathSqrt.sqrt) Yba.func34 (by kernel_rfl) (by kernel_rfl) (by kernel_rfl) (by kernel_rfl), run_sqtV]
  rfl

theorem run_bits (x : Nat) (w : World) : (callFunc 39 #[.float .f64 x]).run Yba.prog w = .ok (.value (.int .u64 x)) w := by
  rw [run_callFunc_extern (e := Extern.MathFloatBits.float64bits) Yba.func39 (by kernel_rfl) (by kernel_rfl) (by kernel_rfl) (by kernel_rfl)]
  rfl
theorem run_unbits (x : Int) (w : World) : (callFunc 38 #[.int .u64 x]).run Yba.prog w = .ok (.value (.float .f64 x.toNat)) w := by
  rw [run_callFunc_extern (e := Extern.MathFloatBits.float64frombits) Yba.func38 (by kernel_rfl) (by kernel_rfl) (by kernel_rfl) (by kernel_rfl)]
  rfl

end Go.Proofs.Ybulkavii.A
