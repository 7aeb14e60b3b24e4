/-
  Seat b2335a, law BModel: the contract of zzs2335bbucket (function 11): it answers what highBit answers.
-/
import Derived.Test.YbulkaviiBits
namespace Go.Proofs.Ybulkavii
open Go.RowKit

theorem bit_fact : ∀ (x : Fin 256) (p : Fin 8), Lib.bitLen x.val ≤ p.val + 1 →
    ((bits .and .u8 (x.val : Int) (2 ^ p.val % 256) == 0) = true → Lib.bitLen x.val ≤ p.val) ∧ ((bits .and .u8 (x.val : Int) (2 ^ p.val % 256) == 0) = false → Lib.bitLen x.val = p.val + 1) := by decide +kernel
theorem bit_one : ∀ (x : Fin 256), Lib.bitLen x.val = 0 → x.val = 0 := by decide +kernel

theorem bit_yes {x : Int} {p : Nat} (h0 : 0 ≤ x) (h1 : x ≤ 255) (hp : p < 8) (hb : Lib.bitLen x.toNat ≤ p + 1) (h : (bits .and .u8 x (2 ^ p % 256) == 0) = true) : Lib.bitLen x.toNat ≤ p := by
  have := (bit_fact ⟨x.toNat, by omega⟩ ⟨p, hp⟩ hb).1
  simp only [Int.toNat_of_nonneg h0] at this
  exact this h
theorem bit_no {x : Int} {p : Nat} (h0 : 0 ≤ x) (h1 : x ≤ 255) (hp : p < 8) (hb : Lib.bitLen x.toNat ≤ p + 1) (h : (bits .and .u8 x (2 ^ p % 256) == 0) = false) : Lib.bitLen x.toNat = p + 1 := by
  have := (bit_fact ⟨x.toNat, by omega⟩ ⟨p, hp⟩ hb).2
  simp only [Int.toNat_of_nonneg h0] at this
  exact this h
theorem bit_zero {x : Int} (h0 : 0 ≤ x) (h1 : x ≤ 255) (hx : x ≠ 0) (hb : Lib.bitLen x.toNat ≤ 0 + 1) : Lib.bitLen x.toNat = 0 + 1 := by
  have := bit_one ⟨x.toNat, by omega⟩
  simp only at this
  omega

set_option maxHeartbeats 400000 in
theorem bucket_any (a b : List Int) (w : World) (ha : a.length = 20) (hb' : b.length = 20) :
    Calls Yba.prog 11 #[.agg (bcells a), .agg (bcells b)] w fun e w' => e = .returned (.int .i64 (hb a b)) ∧ Below w.heap.size w w' := by
  go_enter Yba.func11, Yba.ntmps11
  go_wp2
  go_loopw [5] (fun i wr => ∃ k : Nat, k ≤ 20 ∧ i = .int .i64 k ∧ Hid (hb (a.drop k) (b.drop k) = hb a b) ∧ (∀ j, j < 20 → wr.cell? ⟨w.heap.size, j, none⟩ = some (.int .u8 (a.getD j 0))) ∧ (∀ j, j < 20 → wr.cell? ⟨w.heap.size + 1, j, none⟩ = some (.int .u8 (b.getD j 0))) ∧ Below w.heap.size w wr)
    (fun i _ => 20 - (intOf i).toNat)
  case atStart =>
    exact ⟨0, by omega, rfl, rfl, fun j hj => by rw [box2_first, bcells_get _ _ (by omega)], fun j hj => by rw [box2_second, bcells_get _ _ (by omega)], below2 _ _ _⟩
  case round =>
    obtain ⟨k, hk, rfl, H, hca, hcb, hnx⟩ := hrel
    by_cases hlt : k < 20
    · obtain ⟨x, hx⟩ : ∃ x, Hid (x = a.getD k 0) := ⟨_, rfl⟩
      obtain ⟨y, hy⟩ : ∃ y, Hid (y = b.getD k 0) := ⟨_, rfl⟩
      have c1 : wr.cell? ⟨w.heap.size, k, none⟩ = some (.int .u8 x) := by rw [hx.out]; exact hca k hlt
      have c2 : wr.cell? ⟨w.heap.size + 1, k, none⟩ = some (.int .u8 y) := by rw [hy.out]; exact hcb k hlt
      have HA := hidden (And.intro hca hcb)
      clear hca hcb
      have hI : (k : Int) < 20 := by omega
      obtain ⟨d, hd⟩ : ∃ d, bits .xor .u8 x y = d := ⟨_, rfl⟩
      have hr : 0 ≤ d ∧ d ≤ 255 := by rw [← hd]; exact bits_u8_range .xor x y
      obtain ⟨hr0, hr1⟩ := hr
      have hl := bitLen_u8 _ hr0 hr1
      by_cases hz : d = 0
      · have hd' : (d != 0) = false := by simp [hz]
        have H2 := hb_zero ha hb' hlt hx hy H (hd.trans hz)
        clear hz H
        go_wp2
        go_quiet (fail)
        go_wp2
        go_roundw
        case rel => exact ⟨k + 1, by omega, by go_num, H2, HA.out.1, HA.out.2, below_drewN hnx _⟩
        case measure => simp [intOf]; omega
      · have hd' : (d != 0) = true := by simp [hz]
        have H2 : Hid _ := hb_hit ha hb' hlt hx hy H (by rw [hd]; exact hz)
        rw [hd] at H2
        have HZ := hidden hz
        clear hz H
        go_wp2
        go_quiet (fail)
        go_wp2
        go_loopw [7] (fun pv w2 => ∃ p : Nat, p < 8 ∧ pv = .int .i64 p ∧ Lib.bitLen d.toNat ≤ p + 1 ∧ w2 = wr.drewN nq) (fun pv _ => (intOf pv).toNat)
        case atStart => exact ⟨7, by omega, rfl, by omega, rfl⟩
        case round =>
          obtain ⟨p, hp, rfl, hbl, rfl⟩ := hrel
          by_cases hp0 : 0 < p
          · have hpI : (0 : Int) < (p : Int) := by omega
            by_cases ht : (bits .and .u8 d (2 ^ p % 256) == 0) = true
            · have hn := bit_yes hr0 hr1 hp hbl ht
              go_wp2
              go_roundw
              case rel => exact ⟨p - 1, by omega, by rw [show ((p : Int) - 1) = ((p - 1 : Nat) : Int) by omega], by omega, by trivial⟩
              case measure => simp [intOf]; omega
            · have ht' : (bits .and .u8 d (2 ^ p % 256) == 0) = false := by simpa using ht
              have hn := bit_no hr0 hr1 hp hbl ht'
              have H3 : Hid ((19 - (k : Int)) * 8 + (p : Int) = hb a b) := by have := H2.out; show _ = _; omega
              clear ht hn H2
              go_wp2
              go_ret
              exact ⟨ret_int H3.out, below_drewN hnx _⟩
          · obtain rfl : p = 0 := by omega
            have hn := bit_zero hr0 hr1 HZ.out hbl
            have H3 : Hid ((19 - (k : Int)) * 8 = hb a b) := by have := H2.out; show _ = _; omega
            clear hn H2
            go_wp2
            go_ret
            exact ⟨ret_int (by simpa using H3.out), below_drewN hnx _⟩
    · obtain rfl : k = 20 := by omega
      have H2 : Hid _ := hb_end ha H
      clear H
      go_wp2
      go_ret
      exact ⟨ret_int H2.out, hnx⟩

end Go.Proofs.Ybulkavii
