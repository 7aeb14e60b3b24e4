/-
  No cell of these rows narrows 'for every input' (looked for: loops, veiled, ifaces, maps, wideKeys, modest, calm, conditions, laid).
  DERIVED. THE GIVEN ROWS OF THIS SEAT. 1 by the template 'for every input the law returns true; each argument reads behind the call as it read before'; 0 by the template 'total and deterministic' (their statements: YbulkavlaTotals.lean).
  GIVEN WITH THE SEED: the statements are not yours to turn. If you find one false, say at which input.
  Laid BY PROGRAM, IN A SANDBOX (cutbox-rows.mjs): the forced cells as the released guide's own fill.sh prints them over the translation d67430ad549b7e6d… (all of the seat's roots in one cut). By AI agents, Wed Nov 11 2026. No macro, syntax, notation, axiom, sorry.
-/
import Derived.Test.YbulkavlaChecked
import GoSem.Claim
import GoSem.ClaimJoined
import GoSem.ClaimMapViews
import Derived.JoinedTies
import Derived.KernelRfl
namespace Go.Proofs.Ybulkavla
/- THE CELL 'sum', in the pinned program and in every row, IS THE sha256 OF THE DUMP (.gsa) THAT YbulkavlaProg.lean LOADS. Nothing in Lean hashes anything: it is a label: what it is worth is what the hold of that sum in a sandbox is worth. -/
noncomputable def Yba.pinned : Pinned := { name := "ybulkavla", sum := "d67430ad549b7e6d0c0213e8972749b53a2e0eb3fea3e5cbc3c35a2f9a0c37ec", checked := Yba.checked }
namespace Rows
def none {H : Type} : Left H := { results := [], args := [] }

/-- 'chronogram.LawS2340AJoining': WHATEVER THE INPUT: true; the input reads as it did. -/
def lawS2340AJoiningSpec : ChangeSpec := { name := "lawS2340AJoining", fn := fun _ => fun
  | [d1, d2] => { results := [.lit (.bool true)], args := [d1, d2] }
  | _ => none }
def lawS2340AJoiningRow : OpenClaim := { program := "ybulkavla", sum := "d67430ad549b7e6d0c0213e8972749b53a2e0eb3fea3e5cbc3c35a2f9a0c37ec", func := "example.com/chronogram/chronogram/chronogram.LawS2340AJoining", spec := "lawS2340AJoining", apart := false }
def LawS2340AJoiningSaid : Prop := lawS2340AJoiningRow.holds Yba.pinned (OpenSpec.ofChange lawS2340AJoiningSpec)

/-- ITS FALSE NEIGHBOUR: 'it returns false'. Refute it at one input. -/
def lawS2340AJoiningWrong : ChangeSpec := { name := "lawS2340AJoining", fn := fun _ => fun
  | [d1, d2] => { results := [.lit (.bool false)], args := [d1, d2] }
  | _ => none }
def LawS2340AJoiningWrongFalsely : Prop := lawS2340AJoiningRow.holds Yba.pinned (OpenSpec.ofChange lawS2340AJoiningWrong)

end Rows
end Go.Proofs.Ybulkavla
