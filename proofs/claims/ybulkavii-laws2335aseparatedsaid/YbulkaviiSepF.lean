/-
  Seat b2335a, laws A: what Borders works out with one other, a at the centre, in plain terms.
-/
import Derived.Test.YbulkaviiMoved
import Derived.Test.YbulkaviiScaleB
namespace Go.Proofs.Ybulkavii.A
open Go Go.RowKit

def pickC (t : Bool) (x y : Nat) : Nat := if t then x else y

def sepF (p0 p1 o0 o1 : Nat) : Option (Nat × Nat × Nat × Nat × Nat) :=
  (gapF 0 0).bind fun g =>
  (movedF 0 0 p0 p1 g).bind fun mB =>
  (floatBits .sub .f64 p0 0).bind fun s0 =>
  (floatBits .sub .f64 p1 0).bind fun s1 =>
  (quoF s0 s1 mB.1 mB.2.1).bind fun bm =>
  (movedF 0 0 o0 o1 g).bind fun mO =>
  (floatBits .sub .f64 o0 p0).bind fun u0 =>
  (floatBits .mul .f64 u0 g).bind fun v0 =>
  (floatBits .sub .f64 o1 p1).bind fun u1 =>
  (floatBits .mul .f64 u1 g).bind fun v1 =>
  (quoF v0 v1 mO.1 mO.2.1).bind fun q =>
  (quoF q.1 q.2 mB.1 mB.2.1).bind fun z =>
  (scaleF bm.1 bm.2 z.1 z.2).bind fun sc =>
  (ldexpF one (-sc.1)).bind fun b =>
  (hypF sc.2.1 sc.2.2.1).bind fun bt =>
  (floatBits .quo .f64 sc.2.1 bt).bind fun e0 =>
  (floatBits .quo .f64 sc.2.2.1 bt).bind fun e1 =>
  (sqt mB.2.2).bind fun rt =>
  (floatBits .mul .f64 sc.2.2.2.1 sc.2.2.2.1).bind fun m1 =>
  (floatBits .mul .f64 sc.2.2.2.2 sc.2.2.2.2).bind fun m2 =>
  (floatBits .add .f64 m1 m2).bind fun dd =>
  (floatBits .mul .f64 e0 sc.2.2.2.2).bind fun n1 =>
  (floatBits .mul .f64 e1 sc.2.2.2.1).bind fun n2 =>
  (floatBits .sub .f64 n1 n2).bind fun n3 =>
  (floatBits .mul .f64 rt n3).bind fun co =>
  (floatBits .mul .f64 sc.2.1 sc.2.2.2.1).bind fun k1 =>
  (floatBits .mul .f64 sc.2.2.1 sc.2.2.2.2).bind fun k2 =>
  (floatBits .add .f64 k1 k2).bind fun k3 =>
  (floatBits .add .f64 k3 dd).bind fun c1 =>
  (sqt dd).bind fun sd =>
  (floatBits .mul .f64 bt sd).bind fun k4 =>
  (floatBits .add .f64 k4 dd).bind fun sz1 =>
  (ldexpF mB.2.2 (-2 * sc.1)).bind fun gB =>
  (ldexpF mO.2.2 (-2 * sc.1)).bind fun gO =>
  (floatBits .add .f64 gB gO).bind fun t1 =>
  (floatBits .add .f64 t1 dd).bind fun t2 =>
  (floatBits .quo .f64 t2 4611686018427387904).bind fun te =>
  (floatBits .sub .f64 gB gO).bind fun t3 =>
  (floatBits .add .f64 t3 dd).bind fun t4 =>
  (floatBits .quo .f64 t4 4611686018427387904).bind fun c2 =>
  (hypF co (pickC (ord te sz1 == some .lt) c2 c1)).bind fun l =>
  (floatBits .quo .f64 co l).bind fun cf =>
  (floatBits .quo .f64 (pickC (ord te sz1 == some .lt) c2 c1) l).bind fun c =>
  (floatBits .quo .f64 (pickC (ord te sz1 == some .lt) te sz1) l).bind fun sz =>
  (floatBits .mul .f64 13650858631089744401 sz).bind fun ml =>
  some (l, b, cf, c, ml)

theorem sepF_some {p0 p1 o0 o1 : Nat} {r : Nat × Nat × Nat × Nat × Nat} (h : sepF p0 p1 o0 o1 = some r) : ∃ g, Hid (gapF 0 0 = some g) ∧ ∃ mB, Hid (movedF 0 0 p0 p1 g = some mB) ∧ ∃ s0, Hid (floatBits .sub .f64 p0 0 = some s0) ∧ ∃ s1, Hid (floatBits .sub .f64 p1 0 = some s1) ∧ ∃ bm, Hid (quoF s0 s1 mB.1 mB.2.1 = some bm) ∧ ∃ mO, Hid (movedF 0 0 o0 o1 g = some mO) ∧ ∃ u0, Hid (floatBits .sub .f64 o0 p0 = some u0) ∧ ∃ v0, Hid (floatBits .mul .f64 u0 g = some v0) ∧ ∃ u1, Hid (floatBits .sub .f64 o1 p1 = some u1) ∧ ∃ v1, Hid (floatBits .mul .f64 u1 g = some v1) ∧ ∃ q, Hid (quoF v0 v1 mO.1 mO.2.1 = some q) ∧ ∃ z, Hid (quoF q.1 q.2 mB.1 mB.2.1 = some z) ∧ ∃ sc, Hid (scaleF bm.1 bm.2 z.1 z.2 = some sc) ∧ ∃ b, Hid (ldexpF one (-sc.1) = some b) ∧ ∃ bt, Hid (hypF sc.2.1 sc.2.2.1 = some bt) ∧ ∃ e0, Hid (floatBits .quo .f64 sc.2.1 bt = some e0) ∧ ∃ e1, Hid (floatBits .quo .f64 sc.2.2.1 bt = some e1) ∧ ∃ rt, Hid (sqt mB.2.2 = some rt) ∧ ∃ m1, Hid (floatBits .mul .f64 sc.2.2.2.1 sc.2.2.2.1 = some m1) ∧ ∃ m2, Hid (floatBits .mul .f64 sc.2.2.2.2 sc.2.2.2.2 = some m2) ∧ ∃ dd, Hid (floatBits .add .f64 m1 m2 = some dd) ∧ ∃ n1, Hid (floatBits .mul .f64 e0 sc.2.2.2.2 = some n1) ∧ ∃ n2, Hid (floatBits .mul .f64 e1 sc.2.2.2.1 = some n2) ∧ ∃ n3, Hid (floatBits .sub .f64 n1 n2 = some n3) ∧ ∃ co, Hid (floatBits .mul .f64 rt n3 = some co) ∧ ∃ k1, Hid (floatBits .mul .f64 sc.2.1 sc.2.2.2.1 = some k1) ∧ ∃ k2, Hid (floatBits .mul .f64 sc.2.2.1 sc.2.2.2.2 = some k2) ∧ ∃ k3, Hid (floatBits .add .f64 k1 k2 = some k3) ∧ ∃ c1, Hid (floatBits .add .f64 k3 dd = some c1) ∧ ∃ sd, Hid (sqt dd = some sd) ∧ ∃ k4, Hid (floatBits .mul .f64 bt sd = some k4) ∧ ∃ sz1, Hid (floatBits .add .f64 k4 dd = some sz1) ∧ ∃ gB, Hid (ldexpF mB.2.2 (-2 * sc.1) = some gB) ∧ ∃ gO, Hid (ldexpF mO.2.2 (-2 * sc.1) = some gO) ∧ ∃ t1, Hid (floatBits .add .f64 gB gO = some t1) ∧ ∃ t2, Hid (floatBits .add .f64 t1 dd = some t2) ∧ ∃ te, Hid (floatBits .quo .f64 t2 4611686018427387904 = some te) ∧ ∃ t3, Hid (floatBits .sub .f64 gB gO = some t3) ∧ ∃ t4, Hid (floatBits .add .f64 t3 dd = some t4) ∧ ∃ c2, Hid (floatBits .quo .f64 t4 4611686018427387904 = some c2) ∧ ∃ l, Hid (hypF co (pickC (ord te sz1 == some .lt) c2 c1) = some l) ∧ ∃ cf, Hid (floatBits .quo .f64 co l = some cf) ∧ ∃ c, Hid (floatBits .quo .f64 (pickC (ord te sz1 == some .lt) c2 c1) l = some c) ∧ ∃ sz, Hid (floatBits .quo .f64 (pickC (ord te sz1 == some .lt) te sz1) l = some sz) ∧ ∃ ml, Hid (floatBits .mul .f64 13650858631089744401 sz = some ml) ∧ (l, b, cf, c, ml) = r := by
  unfold sepF at h
  obtain ⟨g, h_g, h⟩ := Option.bind_eq_some_iff.1 h
  obtain ⟨mB, h_mB, h⟩ := Option.bind_eq_some_iff.1 h
  obtain ⟨s0, h_s0, h⟩ := Option.bind_eq_some_iff.1 h
  obtain ⟨s1, h_s1, h⟩ := Option.bind_eq_some_iff.1 h
  obtain ⟨bm, h_bm, h⟩ := Option.bind_eq_some_iff.1 h
  obtain ⟨mO, h_mO, h⟩ := Option.bind_eq_some_iff.1 h
  obtain ⟨u0, h_u0, h⟩ := Option.bind_eq_some_iff.1 h
  obtain ⟨v0, h_v0, h⟩ := Option.bind_eq_some_iff.1 h
  obtain ⟨u1, h_u1, h⟩ := Option.bind_eq_some_iff.1 h
  obtain ⟨v1, h_v1, h⟩ := Option.bind_eq_some_iff.1 h
  obtain ⟨q, h_q, h⟩ := Option.bind_eq_some_iff.1 h
  obtain ⟨z, h_z, h⟩ := Option.bind_eq_some_iff.1 h
  obtain ⟨sc, h_sc, h⟩ := Option.bind_eq_some_iff.1 h
  obtain ⟨b, h_b, h⟩ := Option.bind_eq_some_iff.1 h
  obtain ⟨bt, h_bt, h⟩ := Option.bind_eq_some_iff.1 h
  obtain ⟨e0, h_e0, h⟩ := Option.bind_eq_some_iff.1 h
  obtain ⟨e1, h_e1, h⟩ := Option.bind_eq_some_iff.1 h
  obtain ⟨rt, h_rt, h⟩ := Option.bind_eq_some_iff.1 h
  obtain ⟨m1, h_m1, h⟩ := Option.bind_eq_some_iff.1 h
  obtain ⟨m2, h_m2, h⟩ := Option.bind_eq_some_iff.1 h
  obtain ⟨dd, h_dd, h⟩ := Option.bind_eq_some_iff.1 h
  obtain ⟨n1, h_n1, h⟩ := Option.bind_eq_some_iff.1 h
  obtain ⟨n2, h_n2, h⟩ := Option.bind_eq_some_iff.1 h
  obtain ⟨n3, h_n3, h⟩ := Option.bind_eq_some_iff.1 h
  obtain ⟨co, h_co, h⟩ := Option.bind_eq_some_iff.1 h
  obtain ⟨k1, h_k1, h⟩ := Option.bind_eq_some_iff.1 h
  obtain ⟨k2, h_k2, h⟩ := Option.bind_eq_some_iff.1 h
  obtain ⟨k3, h_k3, h⟩ := Option.bind_eq_some_iff.1 h
  obtain ⟨c1, h_c1, h⟩ := Option.bind_eq_some_iff.1 h
  obtain ⟨sd, h_sd, h⟩ := Option.bind_eq_some_iff.1 h
  obtain ⟨k4, h_k4, h⟩ := Option.bind_eq_some_iff.1 h
  obtain ⟨sz1, h_sz1, h⟩ := Option.bind_eq_some_iff.1 h
  obtain ⟨gB, h_gB, h⟩ := Option.bind_eq_some_iff.1 h
  obtain ⟨gO, h_gO, h⟩ := Option.bind_eq_some_iff.1 h
  obtain ⟨t1, h_t1, h⟩ := Option.bind_eq_some_iff.1 h
  obtain ⟨t2, h_t2, h⟩ := Option.bind_eq_some_iff.1 h
  obtain ⟨te, h_te, h⟩ := Option.bind_eq_some_iff.1 h
  obtain ⟨t3, h_t3, h⟩ := Option.bind_eq_some_iff.1 h
  obtain ⟨t4, h_t4, h⟩ := Option.bind_eq_some_iff.1 h
  obtain ⟨c2, h_c2, h⟩ := Option.bind_eq_some_iff.1 h
  obtain ⟨l, h_l, h⟩ := Option.bind_eq_some_iff.1 h
  obtain ⟨cf, h_cf, h⟩ := Option.bind_eq_some_iff.1 h
  obtain ⟨c, h_c, h⟩ := Option.bind_eq_some_iff.1 h
  obtain ⟨sz, h_sz, h⟩ := Option.bind_eq_some_iff.1 h
  obtain ⟨ml, h_ml, h⟩ := Option.bind_eq_some_iff.1 h
  injection h with h
  exact ⟨g, h_g, mB, h_mB, s0, h_s0, s1, h_s1, bm, h_bm, mO, h_mO, u0, h_u0, v0, h_v0, u1, h_u1, v1, h_v1, q, h_q, z, h_z, sc, h_sc, b, h_b, bt, h_bt, e0, h_e0, e1, h_e1, rt, h_rt, m1, h_m1, m2, h_m2, dd, h_dd, n1, h_n1, n2, h_n2, n3, h_n3, co, h_co, k1, h_k1, k2, h_k2, k3, h_k3, c1, h_c1, sd, h_sd, k4, h_k4, sz1, h_sz1, gB, h_gB, gO, h_gO, t1, h_t1, t2, h_t2, te, h_te, t3, h_t3, t4, h_t4, c2, h_c2, l, h_l, cf, h_cf, c, h_c, sz, h_sz, ml, h_ml, h⟩

/-- The test of one input. -/
def sepOK (p0 p1 o0 o1 : Nat) (far : Bool) : Bool :=
  match sepF p0 p1 o0 o1 with
  | some (l, b, cf, c, ml) => (ord l 0 == some .gt) && (ord 0 b == some .lt || ord 0 b == some .eq) && (ord (absB cf) 4427486594234968593 == some .lt || ord (absB cf) 4427486594234968593 == some .eq) && ((ord c ml == some .lt) == !far) && ((ord p0 0 == some .eq && ord p1 0 == some .eq) == false)
  | none => false

def sT (k : Nat) : Nat := (floatBits .quo .f64 ([4607182418800017408, 4611686018427387904, 4613937818241073152, 4616189618054758400, 4617315517961601024, 4618441417868443648, 4619567317775286272].getD k 0) 4620693217682128896).getD 0
def hT (k : Nat) (far : Bool) : Nat := let h := (floatBits .quo .f64 (sT k) 4611686018427387904).getD 0; if far then ng h else h
def pX (k dir : Nat) : Nat := match dir with | 0 => sT k | 1 => 0 | 2 => ng (sT k) | _ => 0
def pY (k dir : Nat) : Nat := match dir with | 0 => 0 | 1 => sT k | 2 => 0 | _ => ng (sT k)
def oX (k dir : Nat) (far : Bool) : Nat := match dir with | 0 => hT k far | 1 => 0 | 2 => ng (hT k far) | _ => 0
def oY (k dir : Nat) (far : Bool) : Nat := match dir with | 0 => 0 | 1 => hT k far | 2 => 0 | _ => ng (hT k far)

theorem sep_all : ∀ (k : Fin 7) (dir : Fin 4) (far : Bool), sepOK (pX k dir) (pY k dir) (oX k dir far) (oY k dir far) far = true := by decide +kernel

end Go.Proofs.Ybulkavii.A
