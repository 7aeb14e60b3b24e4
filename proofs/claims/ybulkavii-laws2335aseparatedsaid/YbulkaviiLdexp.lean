/-
  Seat b2335a, laws A: math.Ldexp (22, 31).
-/
import Derived.Test.YbulkaviiFrexp
namespace Go.Proofs.Ybulkavii.A
open Go Go.RowKit

theorem and2047i (z : Int) : ∃ e : Nat, bits .and .i64 z 2047 = (e : Int) ∧ e ≤ 2047 := by
  have h : ((BitVec.ofInt 64 z) &&& (BitVec.ofInt 64 2047)).toNat ≤ 2047 := by
    rw [BitVec.toNat_and]
    exact Nat.and_le_right
  refine ⟨((BitVec.ofInt 64 z) &&& (BitVec.ofInt 64 2047)).toNat, ?_, h⟩
  show IntKind.i64.wrap _ = _
  have : ∀ n : Nat, n ≤ 2047 → IntKind.i64.wrap (n : Int) = (n : Int) := fun n hn => by
    simp [IntKind.wrap, IntKind.bits, IntKind.signed]
    omega
  exact this _ h

def expI (x : Nat) : Int := bits .and .i64 (wrap64 ((x : Int) / 4503599627370496)) 2047
def ldB (x : Nat) (m : Int) : Nat := (bits .or .u64 (bits .andNot .u64 (x : Int) 9218868437227405312) ((m + 1023) * 4503599627370496)).toNat

/-- Ldexp behind normalize. -/
def ldTail (x : Nat) (m : Int) : Option Nat :=
  if m < -1075 then some (cpsB 0 x)
  else if 1023 < m then (if ord x 0 == some .lt then some 18442240474082181120 else some 9218868437227405312)
  else if m < -1022 then floatBits .mul .f64 4368491638549381120 (ldB x (m + 53))
  else floatBits .mul .f64 one (ldB x m)

def ldexpF (x : Nat) (n : Int) : Option Nat :=
  if ord x 0 == some .eq then some x else
  if infB x then some x else
  if nanB x then some x else
  if ord (absB x) 4503599627370496 == some .lt then (floatBits .mul .f64 x 4841369599423283200).bind fun r => ldTail r (n + -52 + (expI r - 1023))
  else ldTail x (n + (expI x - 1023))

theorem bits_u64_lt (op : BinOp) (a b : Int) : (bits op .u64 a b).toNat < 2 ^ 64 := by
  unfold bits
  simp [IntKind.wrap, IntKind.bits, IntKind.signed]
  omega

set_option maxRecDepth 100000 in
set_option maxHeartbeats 1000000 in
theorem ldexp_big (x : Nat) (n : Int) (w : World) (hn0 : -3000 ≤ n) (hn1 : n ≤ 3000) (hz : (ord x 0 == some .eq) = false) (hi : infB x = false) (hnn : nanB x = false) (hs : (ord (absB x) 4503599627370496 == some .lt) = false) :
    Calls Yba.prog 31 #[.float .f64 x, .int .i64 n] w fun e w' => ∃ r d, e = .returned (.float .f64 r) ∧ w' = w.drewN d ∧ Gives (ldTail x (n + (expI x - 1023))) r := by
  have h1 := run_bits
  have h2 := run_unbits
  obtain ⟨eb, heb, heb1⟩ := and2047i (wrap64 ((x : Int) / 4503599627370496))
  obtain ⟨m, hm⟩ : ∃ m, n + ((eb : Int) - 1023) = m := ⟨_, rfl⟩
  have hme : n + (expI x - 1023) = m := by unfold expI; rw [heb, hm]
  rw [hme]
  clear hme
  rcases (show m < -1075 ∨ (¬ m < -1075 ∧ 1023 < m ∧ (ord x 0 == some .lt) = true) ∨ (¬ m < -1075 ∧ 1023 < m ∧ (ord x 0 == some .lt) = false) ∨ (¬ m < -1075 ∧ ¬ 1023 < m ∧ m < -1022) ∨ (¬ m < -1075 ∧ ¬ 1023 < m ∧ ¬ m < -1022) by
    by_cases g1 : m < -1075
    · exact .inl g1
    · by_cases g2 : 1023 < m
      · rcases Bool.eq_false_or_eq_true (ord x 0 == some .lt) with h | h
        · exact .inr (.inl ⟨g1, g2, h⟩)
        · exact .inr (.inr (.inl ⟨g1, g2, h⟩))
      · by_cases g3 : m < -1022
        · exact .inr (.inr (.inr (.inl ⟨g1, g2, g3⟩)))
        · exact .inr (.inr (.inr (.inr ⟨g1, g2, g3⟩)))) with c1 | ⟨c1, c2, c3⟩ | ⟨c1, c2, c3⟩ | ⟨c1, c2, c3⟩ | ⟨c1, c2, c3⟩
  · have hT : Hid (ldTail x m = some (cpsB 0 x)) := by show _ = _; simp [ldTail, c1]
    go_enter Yba.func31, Yba.ntmps31
    go_wp2_with (first
      | (go_at_call 42; refine (isInf_any _ _).mono ?_; rintro e w1 ⟨rfl, rfl⟩)
      | (go_at_call 43; refine (isNaN_any _ _).mono ?_; rintro e w1 ⟨rfl, rfl⟩)
      | (go_at_call 44; refine (norm_big _ _ hs).mono ?_; rintro e w1 ⟨rfl, rfl⟩)
      | (go_at_call 45; refine (copysign_any _ _ _).mono ?_; rintro e w1 ⟨rfl, rfl⟩))
    go_ret
    exact ⟨_, 0, rfl, rfl, bits_u64_lt _ _ _, fun v hv => by rw [hT.out] at hv; injection hv⟩
  · have hT : Hid (ldTail x m = some 18442240474082181120) := by show _ = _; simp [ldTail, c1, c2, c3]
    go_enter Yba.func31, Yba.ntmps31
    go_wp2_with (first
      | (go_at_call 42; refine (isInf_any _ _).mono ?_; rintro e w1 ⟨rfl, rfl⟩)
      | (go_at_call 43; refine (isNaN_any _ _).mono ?_; rintro e w1 ⟨rfl, rfl⟩)
      | (go_at_call 44; refine (norm_big _ _ hs).mono ?_; rintro e w1 ⟨rfl, rfl⟩)
      | (go_at_call 46; refine (inf_neg _).mono ?_; rintro e w1 ⟨rfl, rfl⟩))
    go_ret
    exact ⟨_, 0, rfl, rfl, by decide, fun v hv => by rw [hT.out] at hv; injection hv⟩
  · have hT : Hid (ldTail x m = some 9218868437227405312) := by show _ = _; simp [ldTail, c1, c2, c3]
    go_enter Yba.func31, Yba.ntmps31
    go_wp2_with (first
      | (go_at_call 42; refine (isInf_any _ _).mono ?_; rintro e w1 ⟨rfl, rfl⟩)
      | (go_at_call 43; refine (isNaN_any _ _).mono ?_; rintro e w1 ⟨rfl, rfl⟩)
      | (go_at_call 44; refine (norm_big _ _ hs).mono ?_; rintro e w1 ⟨rfl, rfl⟩)
      | (go_at_call 46; refine (inf_any _).mono ?_; rintro e w1 ⟨rfl, rfl⟩))
    go_ret
    exact ⟨_, 0, rfl, rfl, by decide, fun v hv => by rw [hT.out] at hv; injection hv⟩
  · have hT : Hid (ldTail x m = floatBits .mul .f64 4368491638549381120 (ldB x (m + 53))) := by show _ = _; simp [ldTail, c1, c2, c3]
    go_enter Yba.func31, Yba.ntmps31
    go_wp2_with (first
      | (go_at_call 42; refine (isInf_any _ _).mono ?_; rintro e w1 ⟨rfl, rfl⟩)
      | (go_at_call 43; refine (isNaN_any _ _).mono ?_; rintro e w1 ⟨rfl, rfl⟩)
      | (go_at_call 44; refine (norm_big _ _ hs).mono ?_; rintro e w1 ⟨rfl, rfl⟩)
      | (refine wpList_float _ rfl .mul _ _ _ _ rfl (.inr (.inr (.inl rfl))) _ _ rfl rfl ?_; intro r d hr))
    go_ret
    exact ⟨_, _, rfl, rfl, by rw [hT.out]; exact hr.out⟩
  · have hT : Hid (ldTail x m = floatBits .mul .f64 one (ldB x m)) := by show _ = _; simp [ldTail, c1, c2, c3]
    go_enter Yba.func31, Yba.ntmps31
    go_wp2_with (first
      | (go_at_call 42; refine (isInf_any _ _).mono ?_; rintro e w1 ⟨rfl, rfl⟩)
      | (go_at_call 43; refine (isNaN_any _ _).mono ?_; rintro e w1 ⟨rfl, rfl⟩)
      | (go_at_call 44; refine (norm_big _ _ hs).mono ?_; rintro e w1 ⟨rfl, rfl⟩)
      | (refine wpList_float _ rfl .mul _ _ _ _ rfl (.inr (.inr (.inl rfl))) _ _ rfl rfl ?_; intro r d hr))
    go_ret
    exact ⟨_, _, rfl, rfl, by rw [hT.out]; exact hr.out⟩

set_option maxRecDepth 100000 in
set_option maxHeartbeats 2000000 in
theorem ldexp_small (x : Nat) (n : Int) (w : World) (hn0 : -3000 ≤ n) (hn1 : n ≤ 3000) (hz : (ord x 0 == some .eq) = false) (hi : infB x = false) (hnn : nanB x = false) (hs : (ord (absB x) 4503599627370496 == some .lt) = true) :
    Calls Yba.prog 31 #[.float .f64 x, .int .i64 n] w fun e w' => ∃ r d, e = .returned (.float .f64 r) ∧ w' = w.drewN d ∧ ∃ y, Gives (floatBits .mul .f64 x 4841369599423283200) y ∧ Gives (ldTail y (n + -52 + (expI y - 1023))) r := by
  have h1 := run_bits
  have h2 := run_unbits
  go_enter Yba.func31, Yba.ntmps31
  go_wp2_with (first
    | (go_at_call 42; refine (isInf_any _ _).mono ?_; rintro e w1 ⟨rfl, rfl⟩)
    | (go_at_call 43; refine (isNaN_any _ _).mono ?_; rintro e w1 ⟨rfl, rfl⟩)
    | (go_at_call 44; refine (norm_small _ _ hs).mono ?_; rintro e w1 ⟨y, dy, rfl, hy, rfl⟩; have HY := hidden hy; clear hy; obtain ⟨eb, heb, heb1⟩ := and2047i (wrap64 ((y : Int) / 4503599627370496)); obtain ⟨m, hm⟩ : ∃ m, n + -52 + ((eb : Int) - 1023) = m := ⟨_, rfl⟩)
    | (go_at_call 45; refine (copysign_any _ _ _).mono ?_; rintro e w1 ⟨rfl, rfl⟩)
    | (go_at_call 46; refine (inf_any _).mono ?_; rintro e w1 ⟨rfl, rfl⟩)
    | (go_at_call 46; refine (inf_neg _).mono ?_; rintro e w1 ⟨rfl, rfl⟩)
    | (refine wpList_float _ rfl .mul _ _ _ _ rfl (.inr (.inr (.inl rfl))) _ _ rfl rfl ?_; intro r d hr))
  all_goals have hme : n + -52 + (expI y - 1023) = m := by unfold expI; rw [heb, hm]
  all_goals go_ret
  · exact ⟨_, _, rfl, rfl, y, HY.out, by rw [hme, ldTail, if_pos (by assumption)]; exact ⟨bits_u64_lt _ _ _, fun v hv => by injection hv⟩⟩
  · exact ⟨_, _, rfl, rfl, y, HY.out, by rw [hme, ldTail, if_neg (by omega), if_pos (by assumption), if_pos (by assumption)]; exact ⟨by decide, fun v hv => by injection hv⟩⟩
  · exact ⟨_, _, rfl, rfl, y, HY.out, by rw [hme, ldTail, if_neg (by omega), if_pos (by assumption), if_neg (by rw [Bool.not_eq_true]; assumption)]; exact ⟨by decide, fun v hv => by injection hv⟩⟩
  · exact ⟨_, _, rfl, rfl, y, HY.out, by rw [hme, ldTail, if_neg (by omega), if_neg (by omega), if_pos (by assumption)]; exact hr.out⟩
  · exact ⟨_, _, rfl, rfl, y, HY.out, by rw [hme, ldTail, if_neg (by omega), if_neg (by omega), if_neg (by omega)]; exact hr.out⟩

set_option maxRecDepth 100000 in
theorem ldexp_any (x : Nat) (n : Int) (w : World) (hx : x < 2 ^ 64) (hn : -3000 ≤ n ∧ n ≤ 3000) :
    Calls Yba.prog 31 #[.float .f64 x, .int .i64 n] w fun e w' => ∃ r d, e = .returned (.float .f64 r) ∧ w' = w.drewN d ∧ Gives (ldexpF x n) r := by
  obtain ⟨hn0, hn1⟩ := hn
  rcases Bool.eq_false_or_eq_true (ord x 0 == some .eq) with hz | hz
  · have hT : Hid (ldexpF x n = some x) := by show _ = _; rw [ldexpF, if_pos hz]
    have HX := hidden hx
    clear hx
    go_enter Yba.func31, Yba.ntmps31
    go_wp2
    go_ret
    exact ⟨_, 0, rfl, rfl, HX.out, fun v hv => by rw [hT.out] at hv; injection hv⟩
  · have hz' : ¬ (ord x 0 == some .eq) = true := by rw [Bool.not_eq_true]; exact hz
    rcases Bool.eq_false_or_eq_true (infB x) with hi | hi
    · have hT : Hid (ldexpF x n = some x) := by show _ = _; rw [ldexpF, if_neg hz', if_pos hi]
      have HX := hidden hx
      clear hx hz'
      go_enter Yba.func31, Yba.ntmps31
      go_wp2_with (go_at_call 42; refine (isInf_any _ _).mono ?_; rintro e w1 ⟨rfl, rfl⟩)
      go_ret
      exact ⟨_, 0, rfl, rfl, HX.out, fun v hv => by rw [hT.out] at hv; injection hv⟩
    · have hi' : ¬ infB x = true := by rw [Bool.not_eq_true]; exact hi
      rcases Bool.eq_false_or_eq_true (nanB x) with hnn | hnn
      · have hT : Hid (ldexpF x n = some x) := by show _ = _; rw [ldexpF, if_neg hz', if_neg hi', if_pos hnn]
        have HX := hidden hx
        clear hx hz' hi'
        go_enter Yba.func31, Yba.ntmps31
        go_wp2_with (first
          | (go_at_call 42; refine (isInf_any _ _).mono ?_; rintro e w1 ⟨rfl, rfl⟩)
          | (go_at_call 43; refine (isNaN_any _ _).mono ?_; rintro e w1 ⟨rfl, rfl⟩))
        go_ret
        exact ⟨_, 0, rfl, rfl, HX.out, fun v hv => by rw [hT.out] at hv; injection hv⟩
      · have hn' : ¬ nanB x = true := by rw [Bool.not_eq_true]; exact hnn
        rcases Bool.eq_false_or_eq_true (ord (absB x) 4503599627370496 == some .lt) with hs | hs
        · refine (ldexp_small x n w hn0 hn1 hz hi hnn hs).mono ?_
          rintro e w' ⟨r, d, rfl, rfl, y, hy, hr⟩
          refine ⟨r, d, rfl, rfl, hr.1, fun v hv => ?_⟩
          rw [ldexpF, if_neg hz', if_neg hi', if_neg hn', if_pos hs] at hv
          obtain ⟨y', e1, e2⟩ := Option.bind_eq_some_iff.1 hv
          obtain rfl := hy.2 _ e1
          exact hr.2 v e2
        · refine (ldexp_big x n w hn0 hn1 hz hi hnn hs).mono ?_
          rintro e w' ⟨r, d, rfl, rfl, hr⟩
          refine ⟨r, d, rfl, rfl, ?_⟩
          rw [ldexpF, if_neg hz', if_neg hi', if_neg hn', if_neg (by rw [Bool.not_eq_true]; exact hs)]
          exact hr

set_option maxRecDepth 100000 in
theorem Ldexp_any (x : Nat) (n : Int) (w : World) (hx : x < 2 ^ 64) (hn : -3000 ≤ n ∧ n ≤ 3000) :
    Calls Yba.prog 22 #[.float .f64 x, .int .i64 n] w fun e w' => ∃ r d, e = .returned (.float .f64 r) ∧ w' = w.drewN d ∧ Gives (ldexpF x n) r := by
  have HL := hidden (ldexp_any x n w hx hn)
  clear hx hn
  go_enter Yba.func22, Yba.ntmps22
  go_wp2_with (go_at_call 31; refine HL.out.mono ?_; rintro e w1 ⟨r, d, rfl, rfl, hr⟩; have HR := hidden hr; clear hr)
  go_ret
  exact ⟨r, d, rfl, rfl, HR.out⟩

end Go.Proofs.Ybulkavii.A
