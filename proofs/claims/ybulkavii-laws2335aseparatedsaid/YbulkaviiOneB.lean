/-
  Seat b2335a, laws A: Borders with one other, out of the plain test.
-/
import Derived.Test.YbulkaviiOne
namespace Go.Proofs.Ybulkavii.A
open Go Go.RowKit
set_option linter.unusedVariables false

set_option maxRecDepth 100000 in
set_option maxHeartbeats 4000000 in
theorem borders_sep (pb qb ob V0 p0 p1 o0 o1 : Nat) (far : Bool) (w : World) (hok : sepOK p0 p1 o0 o1 far = true)
    (hp0 : w.cell? ⟨pb, 0, none⟩ = some (.float .f64 p0)) (hp1 : w.cell? ⟨pb, 1, none⟩ = some (.float .f64 p1)) (ha0 : w.cell? ⟨qb, 0, none⟩ = some (.float .f64 0)) (ha1 : w.cell? ⟨qb, 1, none⟩ = some (.float .f64 0))
    (ho0 : w.cell? ⟨ob, 0, none⟩ = some (.float .f64 o0)) (ho1 : w.cell? ⟨ob, 1, none⟩ = some (.float .f64 o1)) (hV0 : w.cell? ⟨V0, 0, none⟩ = some (.slice (some ⟨ob, 0, none⟩) 2 2)) :
    Calls Yba.prog 9 #[.agg #[], .slice (some ⟨qb, 0, none⟩) 2 2, .slice (some ⟨pb, 0, none⟩) 2 2, .slice (some ⟨V0, 0, none⟩) 1 1] w fun e w' => e = .returned (.bool far) ∧ Below w.heap.size w w' := by
  unfold sepOK at hok
  cases hF : sepF p0 p1 o0 o1 with
  | none => rw [hF] at hok; cases hok
  | some r =>
    obtain ⟨l', b', cf', c', ml'⟩ := r
    rw [hF] at hok
    simp only [Bool.and_eq_true] at hok
    obtain ⟨⟨⟨⟨hl, hb0⟩, hcf⟩, hT⟩, hne⟩ := hok
    have hT := eq_of_beq hT
    have hne := eq_of_beq hne
    unfold sepF at hF
    obtain ⟨g, h_g, hF⟩ := Option.bind_eq_some_iff.1 hF
    obtain ⟨⟨dB0, dB1, gB0⟩, h_mB, hF⟩ := Option.bind_eq_some_iff.1 hF
    dsimp only at hF
    obtain ⟨s0, h_s0, hF⟩ := Option.bind_eq_some_iff.1 hF
    obtain ⟨s1, h_s1, hF⟩ := Option.bind_eq_some_iff.1 hF
    obtain ⟨⟨x, y⟩, h_bm, hF⟩ := Option.bind_eq_some_iff.1 hF
    dsimp only at hF
    obtain ⟨⟨dO0, dO1, gO0⟩, h_mO, hF⟩ := Option.bind_eq_some_iff.1 hF
    dsimp only at hF
    obtain ⟨u0, h_u0, hF⟩ := Option.bind_eq_some_iff.1 hF
    obtain ⟨v0, h_v0, hF⟩ := Option.bind_eq_some_iff.1 hF
    obtain ⟨u1, h_u1, hF⟩ := Option.bind_eq_some_iff.1 hF
    obtain ⟨v1, h_v1, hF⟩ := Option.bind_eq_some_iff.1 hF
    obtain ⟨⟨q0, q1⟩, h_q, hF⟩ := Option.bind_eq_some_iff.1 hF
    dsimp only at hF
    obtain ⟨⟨z0, z1⟩, h_z, hF⟩ := Option.bind_eq_some_iff.1 hF
    dsimp only at hF
    obtain ⟨⟨ex, x1, y1, z2, z3⟩, h_sc, hF⟩ := Option.bind_eq_some_iff.1 hF
    dsimp only at hF
    obtain ⟨b, h_b, hF⟩ := Option.bind_eq_some_iff.1 hF
    obtain ⟨bt, h_bt, hF⟩ := Option.bind_eq_some_iff.1 hF
    obtain ⟨e0, h_e0, hF⟩ := Option.bind_eq_some_iff.1 hF
    obtain ⟨e1, h_e1, hF⟩ := Option.bind_eq_some_iff.1 hF
    obtain ⟨rt, h_rt, hF⟩ := Option.bind_eq_some_iff.1 hF
    obtain ⟨m1, h_m1, hF⟩ := Option.bind_eq_some_iff.1 hF
    obtain ⟨m2, h_m2, hF⟩ := Option.bind_eq_some_iff.1 hF
    obtain ⟨dd, h_dd, hF⟩ := Option.bind_eq_some_iff.1 hF
    obtain ⟨n1, h_n1, hF⟩ := Option.bind_eq_some_iff.1 hF
    obtain ⟨n2, h_n2, hF⟩ := Option.bind_eq_some_iff.1 hF
    obtain ⟨n3, h_n3, hF⟩ := Option.bind_eq_some_iff.1 hF
    obtain ⟨co, h_co, hF⟩ := Option.bind_eq_some_iff.1 hF
    obtain ⟨k1, h_k1, hF⟩ := Option.bind_eq_some_iff.1 hF
    obtain ⟨k2, h_k2, hF⟩ := Option.bind_eq_some_iff.1 hF
    obtain ⟨k3, h_k3, hF⟩ := Option.bind_eq_some_iff.1 hF
    obtain ⟨c1, h_c1, hF⟩ := Option.bind_eq_some_iff.1 hF
    obtain ⟨sd, h_sd, hF⟩ := Option.bind_eq_some_iff.1 hF
    obtain ⟨k4, h_k4, hF⟩ := Option.bind_eq_some_iff.1 hF
    obtain ⟨sz1, h_sz1, hF⟩ := Option.bind_eq_some_iff.1 hF
    obtain ⟨gB, h_gB, hF⟩ := Option.bind_eq_some_iff.1 hF
    obtain ⟨gO, h_gO, hF⟩ := Option.bind_eq_some_iff.1 hF
    obtain ⟨t1, h_t1, hF⟩ := Option.bind_eq_some_iff.1 hF
    obtain ⟨t2, h_t2, hF⟩ := Option.bind_eq_some_iff.1 hF
    obtain ⟨te, h_te, hF⟩ := Option.bind_eq_some_iff.1 hF
    obtain ⟨t3, h_t3, hF⟩ := Option.bind_eq_some_iff.1 hF
    obtain ⟨t4, h_t4, hF⟩ := Option.bind_eq_some_iff.1 hF
    obtain ⟨c2, h_c2, hF⟩ := Option.bind_eq_some_iff.1 hF
    obtain ⟨l, h_l, hF⟩ := Option.bind_eq_some_iff.1 hF
    obtain ⟨cf, h_cf, hF⟩ := Option.bind_eq_some_iff.1 hF
    obtain ⟨c, h_c, hF⟩ := Option.bind_eq_some_iff.1 hF
    obtain ⟨sz, h_sz, hF⟩ := Option.bind_eq_some_iff.1 hF
    obtain ⟨ml, h_ml, hF⟩ := Option.bind_eq_some_iff.1 hF
    injection hF with hF
    simp only [Prod.mk.injEq] at hF
    obtain ⟨rfl, rfl, rfl, rfl, rfl⟩ := hF
    refine (borders_one_at pb qb ob V0 p0 p1 o0 o1 (!far) w g dB0 dB1 gB0 s0 s1 x y dO0 dO1 gO0 u0 v0 u1 v1 q0 q1 z0 z1 x1 y1 z2 z3 b bt e0 e1 rt m1 m2 dd n1 n2 n3 co k1 k2 k3 c1 sd k4 sz1 gB gO t1 t2 te t3 t4 c2 l cf c sz ml ex ⟨h_g, h_mB, h_s0, h_s1, h_bm, h_mO, h_u0, h_v0, h_u1, h_v1, h_q, h_z, h_sc, h_b, h_bt, h_e0, h_e1, h_rt, h_m1, h_m2, h_dd, h_n1, h_n2, h_n3, h_co, h_k1, h_k2, h_k3, h_c1, h_sd, h_k4, h_sz1, h_gB, h_gO, h_t1, h_t2, h_te, h_t3, h_t4, h_c2, h_l, h_cf, h_c, h_sz, h_ml⟩ hp0 hp1 ha0 ha1 ho0 ho1 hV0 hl hb0 hcf hT hne).mono ?_
    rintro e w' ⟨rfl, hb⟩
    exact ⟨by rw [Bool.not_not], hb⟩

end Go.Proofs.Ybulkavii.A
