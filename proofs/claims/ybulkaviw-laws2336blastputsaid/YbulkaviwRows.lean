/-
  No cell of these rows narrows 'for every input' (looked for: loops, veiled, ifaces, maps, wideKeys, modest, calm, conditions, laid).
  DERIVED. THE GIVEN ROWS OF THIS SEAT. 2 by the template 'for every input the law returns true; each argument reads behind the call as it read before'; 0 by the template 'total and deterministic' (their statements: YbulkaviwTotals.lean).
  GIVEN WITH THE SEED: the statements are not yours to turn. If you find one false, say at which input.
  Laid BY PROGRAM, IN A SANDBOX (cutbox-rows.mjs): the forced cells as the released guide's own fill.sh prints them over the translation d98b5fae6b40bc81… (all of the seat's roots in one cut). By AI agents, Wed Nov 11 2026. No macro, syntax, notation, axiom, sorry.
-/
import Derived.Test.YbulkaviwChecked
import GoSem.Claim
import GoSem.ClaimJoined
import GoSem.ClaimMapViews
import Derived.JoinedTies
import Derived.KernelRfl
namespace Go.Proofs.Ybulkaviw
/- THE CELL 'sum', in the pinned program and in every row, IS THE sha256 OF THE DUMP (.gsa) THAT YbulkaviwProg.lean LOADS. Nothing in Lean hashes anything: it is a label: what it is worth is what the hold of that sum in a sandbox is worth. -/
noncomputable def Yba.pinned : Pinned := { name := "ybulkaviw", sum := "d98b5fae6b40bc8159b298633f4e8f439991977b68eb7d4f2eda8e9c1fc7ac6c", checked := Yba.checked }
namespace Rows
def none {H : Type} : Left H := { results := [], args := [] }

/-- 'sim.LawS2336AFirstErrorKept': WHATEVER THE INPUT: true; the input reads as it did. -/
def lawS2336AFirstErrorKeptSpec : ChangeSpec := { name := "lawS2336AFirstErrorKept", fn := fun _ => fun
  | [d1, d2, d3, d4, d5] => { results := [.lit (.bool true)], args := [d1, d2, d3, d4, d5] }
  | _ => none }
def lawS2336AFirstErrorKeptRow : OpenClaim := { program := "ybulkaviw", sum := "d98b5fae6b40bc8159b298633f4e8f439991977b68eb7d4f2eda8e9c1fc7ac6c", func := "example.com/cardume/cardume/internal/sim.LawS2336AFirstErrorKept", spec := "lawS2336AFirstErrorKept", plainKeys := false, apart := false }
def LawS2336AFirstErrorKeptSaid : Prop := lawS2336AFirstErrorKeptRow.holds Yba.pinned (OpenSpec.ofChange lawS2336AFirstErrorKeptSpec)

/-- ITS FALSE NEIGHBOUR: 'it returns false'. Refute it at one input. -/
def lawS2336AFirstErrorKeptWrong : ChangeSpec := { name := "lawS2336AFirstErrorKept", fn := fun _ => fun
  | [d1, d2, d3, d4, d5] => { results := [.lit (.bool false)], args := [d1, d2, d3, d4, d5] }
  | _ => none }
def LawS2336AFirstErrorKeptWrongFalsely : Prop := lawS2336AFirstErrorKeptRow.holds Yba.pinned (OpenSpec.ofChange lawS2336AFirstErrorKeptWrong)

/-- 'protocol.LawS2336BLastPut': WHATEVER THE INPUT: true; the input reads as it did. -/
def lawS2336BLastPutSpec : ChangeSpec := { name := "lawS2336BLastPut", fn := fun _ => fun
  | [d1, d2, d3] => { results := [.lit (.bool true)], args := [d1, d2, d3] }
  | _ => none }
def lawS2336BLastPutRow : OpenClaim := { program := "ybulkaviw", sum := "d98b5fae6b40bc8159b298633f4e8f439991977b68eb7d4f2eda8e9c1fc7ac6c", func := "example.com/cardume/cardume/internal/protocol.LawS2336BLastPut", spec := "lawS2336BLastPut", unfollowed := true, recurses := true, plainKeys := false, apart := false }
def LawS2336BLastPutSaid : Prop := lawS2336BLastPutRow.holds Yba.pinned (OpenSpec.ofChange lawS2336BLastPutSpec)

/-- ITS FALSE NEIGHBOUR: 'it returns false'. Refute it at one input. -/
def lawS2336BLastPutWrong : ChangeSpec := { name := "lawS2336BLastPut", fn := fun _ => fun
  | [d1, d2, d3] => { results := [.lit (.bool false)], args := [d1, d2, d3] }
  | _ => none }
def LawS2336BLastPutWrongFalsely : Prop := lawS2336BLastPutRow.holds Yba.pinned (OpenSpec.ofChange lawS2336BLastPutWrong)

end Rows
end Go.Proofs.Ybulkaviw
