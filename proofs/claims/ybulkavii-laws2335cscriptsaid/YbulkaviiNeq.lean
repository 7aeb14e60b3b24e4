/-
  Seat b2335a, law CScript: '!=' between two names.
-/
import Derived.Test.YbulkaviiNode
namespace Go.Proofs.Ybulkavii
open Go.RowKit
namespace C

theorem neq82 {a b i j : Nat} (ha : a < 3) (hb : b < 3) (hi : i < 3) (hj : j < 3) (w : World) : (binOp .neq 82 (nameV a b) (nameV i j)).run Yba.prog w = .ok (.bool (!(a == i && b == j))) w := by
  rcases three ha with rfl | rfl | rfl <;> rcases three hb with rfl | rfl | rfl <;> rcases three hi with rfl | rfl | rfl <;> rcases three hj with rfl | rfl | rfl <;> kernel_rfl

end C
end Go.Proofs.Ybulkavii
