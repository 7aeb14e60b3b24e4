/-
  Seat b2335a, law CScript: a map with string keys told by a plain function from keys to values, whatever the values are: the kit's 'ownsMap' at the reader that reads every value as itself.
-/
import Derived.Test.YbulkaviiProg
import Derived.WalkKit
import Derived.Maps.Own
import Derived.Maps.OwnSet
namespace Go.Proofs.Ybulkavii
open Go.RowKit Go.Maps Go.WideMaps

def idR (v : Value) : Option (DataW Value × List MemPlace) := some (.held v, [])

theorem keyed9 : Keyed Yba.prog 9 := string_keyed Yba.underlying9

/-- Block b is a map with string keys, of at most n entries; at key s it holds f s. -/
def MapAt (w : World) (b n : Nat) (f : List UInt8 → Option Value) : Prop :=
  ∃ D : DataW Value, w.ownsMap Yba.prog 9 idR b n D ∧ ∀ s, (∀ v, f s = some v → Maps.has D (.string s) = true ∧ ∀ z, D.atKey (.string s) z = .held v) ∧ (f s = none → Maps.has D (.string s) = false)

theorem MapAt.made (w : World) : MapAt (w.alloc (.map #[] 0)) w.heap.size 0 (fun _ => none) :=
  ⟨.map [], World.ownsMap_made w Yba.prog 9 idR, fun s => ⟨fun v h => (by cases h), fun _ => rfl⟩⟩

theorem MapAt.lt {w : World} {b n : Nat} {f : List UInt8 → Option Value} (h : MapAt w b n f) : b < w.heap.size := by
  obtain ⟨D, h, _⟩ := h; exact h.lt

theorem MapAt.mono {w : World} {b n n' : Nat} {f : List UInt8 → Option Value} (h : MapAt w b n f) (hn : n ≤ n') : MapAt w b n' f := by
  obtain ⟨D, h, r⟩ := h; exact ⟨D, h.mono hn, r⟩

theorem MapAt.congr {w : World} {b n : Nat} {f g : List UInt8 → Option Value} (h : MapAt w b n f) (hfg : ∀ s, f s = g s) : MapAt w b n g := by
  have : f = g := funext hfg
  subst this; exact h

/-- It stays while its block stands. -/
theorem MapAt.block {w w' : World} {b n : Nat} {f : List UInt8 → Option Value} (h : MapAt w b n f) (hb : w'.heap[b]? = w.heap[b]?) : MapAt w' b n f := by
  obtain ⟨D, ⟨es, clock, h1, h2⟩, r⟩ := h
  exact ⟨D, ⟨es, clock, hb.trans h1, h2⟩, r⟩

theorem turned_other {w w' : World} {b : Nat} (h : w.mapTurned w' b) {c : Nat} (hc : c < w.heap.size) (hne : c ≠ b) : w'.heap[c]? = w.heap[c]? :=
  h.grown.block c hc (by simpa using hne)

theorem keyOf9 (s : ByteArray) (hs : s.size ≤ maxLen) : keyOf Yba.prog 9 (.string s) = some (.string s.data.toList) := keyOf_string_mk Yba.underlying9 hs

theorem MapAt.look {w : World} {b n : Nat} {f : List UInt8 → Option Value} (h : MapAt w b n f) {t e : TypeId} (ht : Yba.prog.underlying t = some (.map 9 e)) {z : Value} (hz : (zeroValue e).run Yba.prog w = .ok z w) (s : ByteArray) (hs : s.size ≤ maxLen) :
    (Instr.lookup t (.map (some b)) (.string s) false).run Yba.prog w = .ok ((f s.data.toList).getD z) w := by
  obtain ⟨D, h1, r⟩ := h
  obtain ⟨v, ps, hrun, hv⟩ := h1.lookup keyed9 ht hz (zd := .held z) (zp := []) rfl (keyOf9 s hs)
  rw [hrun]
  simp only [idR, Option.some.injEq, Prod.mk.injEq] at hv
  cases hf : f s.data.toList with
  | none =>
    have := Maps.atKey_of_not_has ((r _).2 hf) (.held z)
    rw [this] at hv
    have e1 : v = z := by injection hv.1
    rw [e1]; rfl
  | some u =>
    have := ((r _).1 u hf).2 (.held z)
    rw [this] at hv
    have e1 : v = u := by injection hv.1
    rw [e1]; rfl

theorem MapAt.lookOk {w : World} {b n : Nat} {f : List UInt8 → Option Value} (h : MapAt w b n f) {t e : TypeId} (ht : Yba.prog.underlying t = some (.map 9 e)) {z : Value} (hz : (zeroValue e).run Yba.prog w = .ok z w) (s : ByteArray) (hs : s.size ≤ maxLen) :
    (Instr.lookup t (.map (some b)) (.string s) true).run Yba.prog w = .ok (.tuple #[(f s.data.toList).getD z, .bool (f s.data.toList).isSome]) w := by
  obtain ⟨D, h1, r⟩ := h
  obtain ⟨v, ps, hrun, hv⟩ := h1.look_ok keyed9 ht hz (zd := .held z) (zp := []) rfl (keyOf9 s hs)
  rw [hrun]
  simp only [idR, Option.some.injEq, Prod.mk.injEq] at hv
  cases hf : f s.data.toList with
  | none =>
    have := Maps.atKey_of_not_has ((r _).2 hf) (.held z)
    rw [this] at hv
    have e1 : v = z := by injection hv.1
    rw [(r _).2 hf, e1]; rfl
  | some u =>
    have := ((r _).1 u hf).2 (.held z)
    rw [this] at hv
    have e1 : v = u := by injection hv.1
    rw [((r _).1 u hf).1, e1]; rfl

theorem MapAt.store {w : World} {b n : Nat} {f : List UInt8 → Option Value} (h : MapAt w b n f) {t e : TypeId} (ht : Yba.prog.underlying t = some (.map 9 e)) (hn : n < maxLen) (s : ByteArray) (hs : s.size ≤ maxLen) (v : Value) :
    ∃ w', (Instr.mapUpdate t (.map (some b)) (.string s) v).run Yba.prog w = .ok () w' ∧ MapAt w' b (n + 1) (fun x => if x = s.data.toList then some v else f x) ∧ w.mapTurned w' b := by
  obtain ⟨D, h1, r⟩ := h
  obtain ⟨w', hrun, h2, h3⟩ := h1.store keyed9 ht hn (d := .held v) (ps := []) (keyOf9 s hs) rfl
  refine ⟨w', hrun, ⟨_, h2, fun x => ?_⟩, h3⟩
  have hk := keyed9.key (keyOf9 s hs)
  by_cases hx : x = s.data.toList
  · subst hx
    refine ⟨fun u hu => ?_, fun hu => by simp at hu⟩
    simp at hu
    subst hu
    exact ⟨Maps.has_put_same h1.isMap hk _, fun z => Maps.atKey_put_same h1.isMap hk _ z⟩
  · have hne : (Lit.string x) ≠ .string s.data.toList := fun e => hx (by injection e)
    simp only [if_neg hx]
    exact ⟨fun u hu => ⟨by rw [Maps.has_put_other hne]; exact ((r x).1 u hu).1, fun z => by rw [Maps.atKey_put_other hne]; exact ((r x).1 u hu).2 z⟩, fun hu => by rw [Maps.has_put_other hne]; exact (r x).2 hu⟩

theorem MapAt.drop {w : World} {b n : Nat} {f : List UInt8 → Option Value} (h : MapAt w b n f) {t e : TypeId} (ht : Yba.prog.underlying t = some (.map 9 e)) (s : ByteArray) (hs : s.size ≤ maxLen) (ty : TypeId) :
    ∃ w', (Builtin.delete_ #[t, 9] ty #[.map (some b), .string s]).run Yba.prog w = .ok (.tuple #[]) w' ∧ MapAt w' b n (fun x => if x = s.data.toList then none else f x) ∧ w.mapTurned w' b := by
  obtain ⟨D, h1, r⟩ := h
  obtain ⟨w', hrun, h2, h3⟩ := h1.drop keyed9 ht (keyOf9 s hs) ty
  refine ⟨w', hrun, ⟨_, h2, fun x => ?_⟩, h3⟩
  by_cases hx : x = s.data.toList
  · subst hx
    refine ⟨fun u hu => by simp at hu, fun _ => Maps.has_del_same⟩
  · have hne : (Lit.string x) ≠ .string s.data.toList := fun e => hx (by injection e)
    simp only [if_neg hx]
    exact ⟨fun u hu => ⟨by rw [Maps.has_del_other hne]; exact ((r x).1 u hu).1, fun z => by rw [Maps.atKey_del_other hne]; exact ((r x).1 u hu).2 z⟩, fun hu => by rw [Maps.has_del_other hne]; exact (r x).2 hu⟩

theorem MapAt.len {w : World} {b n : Nat} {f : List UInt8 → Option Value} (h : MapAt w b n f) {t e : TypeId} (ht : Yba.prog.underlying t = some (.map 9 e)) (ty : TypeId) :
    ∃ m : Nat, (Builtin.len_ #[t] ty #[.map (some b)]).run Yba.prog w = .ok (.int .i64 m) w ∧ (m = 0 → ∀ s, f s = none) ∧ m ≤ n := by
  obtain ⟨D, h1, r⟩ := h
  refine ⟨_, h1.len ht ty, fun h0 s => ?_, h1.size_le⟩
  obtain ⟨es, rfl⟩ := h1.isMap
  rw [Maps.size_eq] at h0
  have : es = [] := List.length_eq_zero_iff.1 h0
  subst this
  cases hf : f s with
  | none => rfl
  | some v =>
    have := ((r s).1 v hf).1
    rw [Maps.has_eq] at this
    simp at this

end Go.Proofs.Ybulkavii
