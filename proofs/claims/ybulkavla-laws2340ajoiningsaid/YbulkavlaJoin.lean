/-
  Seat b2340a, law AJoining: the contracts of (*Chronogram).joining (function 4).
-/
import Derived.Test.YbulkavlaProg
import Derived.WalkKit
import Derived.WalkSpells
import Derived.WalkLawsBesides
import Derived.OwnWalk
import Derived.OneCell
import Derived.Lib.Small
import Derived.Lib.Walk
import Derived.Deep.QuietTactic
import Derived.BigQuiet
import Derived.Deep.AppendLies
namespace Go.Proofs.Ybulkavla
open Go.RowKit

theorem hidden {p : Prop} (h : p) : Hid p := h

set_option maxRecDepth 100000 in
set_option maxHeartbeats 1000000 in
theorem joining_end (C P p kk m cap : Nat) (ar : Option Addr) (w : World) (hp : p < kk) (hm : m ≤ 1024) (c2 : w.cell? ⟨C, 2, none⟩ = some (.slice (some ⟨P, 0, none⟩) kk kk)) (cp : w.cell? ⟨P, p, none⟩ = some (.slice ar m cap)) :
    Calls Yba.prog 4 #[.pointer (some ⟨C, 0, none⟩), .int .i64 p, .int .u64 m] w fun e w' => e = .returned (.tuple #[.pointer none, .bool false]) ∧ w' = w := by
  have hpI : (p : Int) < (kk : Int) := by omega
  have hmm : ((m : Int) == (m : Int)) = true := by simp
  go_enter Yba.func4, Yba.ntmps4
  go_wp2
  go_ret2
  exact ⟨rfl, rfl⟩

set_option maxRecDepth 100000 in
set_option maxHeartbeats 2000000 in
theorem joining_at (C P E p kk m cap g q e n : Nat) (f : Int) (w : World) (hp : p < kk) (hm : m ≤ 1024) (hq : q < m) (he : e < n) (hf : -1 ≤ f ∧ f < n) (c2 : w.cell? ⟨C, 2, none⟩ = some (.slice (some ⟨P, 0, none⟩) kk kk)) (c3 : w.cell? ⟨C, 3, none⟩ = some (.slice (some ⟨E, 0, none⟩) n n))
    (cp : w.cell? ⟨P, p, none⟩ = some (.slice (some ⟨g, 0, none⟩) m cap)) (cq : w.cell? ⟨g, q, none⟩ = some (.int .i64 e)) (ce : w.cell? ⟨E, e * 6 + 4, none⟩ = some (.int .i64 f)) :
    Calls Yba.prog 4 #[.pointer (some ⟨C, 0, none⟩), .int .i64 p, .int .u64 q] w fun r w' => r = .returned (.tuple #[.pointer (if f < 0 then none else some ⟨E, f.toNat * 6, none⟩), .bool true]) ∧ ∃ d, w' = w.drewN d := by
  have hpI : (p : Int) < (kk : Int) := by omega
  have hqI : (q : Int) < (m : Int) := by omega
  have heI : (e : Int) < (n : Int) := by omega
  have hqm : ((q : Int) == (m : Int)) = false := by rw [beq_eq_false_iff_ne]; omega
  obtain ⟨hf0, hf1⟩ := hf
  by_cases hneg : f < 0
  · go_enter Yba.func4, Yba.ntmps4
    go_wp2
    go_quiet (fail)
    go_wp2
    go_ret2
    exact ⟨by simp, _, rfl⟩
  · obtain ⟨f', rfl⟩ : ∃ f' : Nat, f = (f' : Int) := ⟨f.toNat, by omega⟩
    go_enter Yba.func4, Yba.ntmps4
    go_wp2
    go_quiet (fail)
    go_wp2
    go_ret2
    exact ⟨by simp, _, rfl⟩

end Go.Proofs.Ybulkavla
