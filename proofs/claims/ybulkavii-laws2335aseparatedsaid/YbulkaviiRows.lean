/-
  No cell of these rows narrows 'for every input' (looked for: loops, veiled, ifaces, maps, wideKeys, modest, calm, conditions, laid).
  DERIVED. THE GIVEN ROWS OF THIS SEAT. 6 by the template 'for every input the law returns true; each argument reads behind the call as it read before'; 0 by the template 'total and deterministic' (their statements: YbulkaviiTotals.lean).
  GIVEN WITH THE SEED: the statements are not yours to turn. If you find one false, say at which input.
  Laid BY PROGRAM, IN A SANDBOX (cutbox-rows.mjs): the forced cells as the released guide's own fill.sh prints them over the translation ac87928935870d10… (all of the seat's roots in one cut). By AI agents, Wed Nov 11 2026. No macro, syntax, notation, axiom, sorry.
-/
import Derived.Test.YbulkaviiChecked
import GoSem.Claim
import GoSem.ClaimJoined
import GoSem.ClaimMapViews
import Derived.JoinedTies
import Derived.KernelRfl
namespace Go.Proofs.Ybulkavii
/- THE CELL 'sum', in the pinned program and in every row, IS THE sha256 OF THE DUMP (.gsa) THAT YbulkaviiProg.lean LOADS. Nothing in Lean hashes anything: it is a label: what it is worth is what the hold of that sum in a sandbox is worth. -/
noncomputable def Yba.pinned : Pinned := { name := "ybulkavii", sum := "ac87928935870d10214124d259300887386833afb17c4c7083c4d2e0d872867d", checked := Yba.checked }
namespace Rows
def none {H : Type} : Left H := { results := [], args := [] }

/-- 'tessellate.LawS2335ASamePoint': WHATEVER THE INPUT: true; the input reads as it did. -/
def lawS2335ASamePointSpec : ChangeSpec := { name := "lawS2335ASamePoint", fn := fun _ => fun
  | [d1, d2, d3] => { results := [.lit (.bool true)], args := [d1, d2, d3] }
  | _ => none }
def lawS2335ASamePointRow : OpenClaim := { program := "ybulkavii", sum := "ac87928935870d10214124d259300887386833afb17c4c7083c4d2e0d872867d", func := "example.com/tessellate/tessellate.LawS2335ASamePoint", spec := "lawS2335ASamePoint", inPlace := ["math.FMA", "math.Float64bits", "math.Float64frombits", "math.archHypot", "math.sqrt"], unfollowed := true, recurses := true, plainKeys := false, apart := false }
def LawS2335ASamePointSaid : Prop := lawS2335ASamePointRow.holds Yba.pinned (OpenSpec.ofChange lawS2335ASamePointSpec)

/-- ITS FALSE NEIGHBOUR: 'it returns false'. Refute it at one input. -/
def lawS2335ASamePointWrong : ChangeSpec := { name := "lawS2335ASamePoint", fn := fun _ => fun
  | [d1, d2, d3] => { results := [.lit (.bool false)], args := [d1, d2, d3] }
  | _ => none }
def LawS2335ASamePointWrongFalsely : Prop := lawS2335ASamePointRow.holds Yba.pinned (OpenSpec.ofChange lawS2335ASamePointWrong)

/-- 'tessellate.LawS2335ANoOthers': WHATEVER THE INPUT: true; the input reads as it did. -/
def lawS2335ANoOthersSpec : ChangeSpec := { name := "lawS2335ANoOthers", fn := fun _ => fun
  | [d1, d2, d3, d4] => { results := [.lit (.bool true)], args := [d1, d2, d3, d4] }
  | _ => none }
def lawS2335ANoOthersRow : OpenClaim := { program := "ybulkavii", sum := "ac87928935870d10214124d259300887386833afb17c4c7083c4d2e0d872867d", func := "example.com/tessellate/tessellate.LawS2335ANoOthers", spec := "lawS2335ANoOthers", inPlace := ["math.FMA", "math.Float64bits", "math.Float64frombits", "math.archHypot", "math.sqrt"], unfollowed := true, recurses := true, plainKeys := false, apart := false }
def LawS2335ANoOthersSaid : Prop := lawS2335ANoOthersRow.holds Yba.pinned (OpenSpec.ofChange lawS2335ANoOthersSpec)

/-- ITS FALSE NEIGHBOUR: 'it returns false'. Refute it at one input. -/
def lawS2335ANoOthersWrong : ChangeSpec := { name := "lawS2335ANoOthers", fn := fun _ => fun
  | [d1, d2, d3, d4] => { results := [.lit (.bool false)], args := [d1, d2, d3, d4] }
  | _ => none }
def LawS2335ANoOthersWrongFalsely : Prop := lawS2335ANoOthersRow.holds Yba.pinned (OpenSpec.ofChange lawS2335ANoOthersWrong)

/-- 'tessellate.LawS2335ASeparated': WHATEVER THE INPUT: true; the input reads as it did. -/
def lawS2335ASeparatedSpec : ChangeSpec := { name := "lawS2335ASeparated", fn := fun _ => fun
  | [d1, d2, d3] => { results := [.lit (.bool true)], args := [d1, d2, d3] }
  | _ => none }
def lawS2335ASeparatedRow : OpenClaim := { program := "ybulkavii", sum := "ac87928935870d10214124d259300887386833afb17c4c7083c4d2e0d872867d", func := "example.com/tessellate/tessellate.LawS2335ASeparated", spec := "lawS2335ASeparated", inPlace := ["math.FMA", "math.Float64bits", "math.Float64frombits", "math.archHypot", "math.sqrt"], unfollowed := true, recurses := true, plainKeys := false, apart := false }
def LawS2335ASeparatedSaid : Prop := lawS2335ASeparatedRow.holds Yba.pinned (OpenSpec.ofChange lawS2335ASeparatedSpec)

/-- ITS FALSE NEIGHBOUR: 'it returns false'. Refute it at one input. -/
def lawS2335ASeparatedWrong : ChangeSpec := { name := "lawS2335ASeparated", fn := fun _ => fun
  | [d1, d2, d3] => { results := [.lit (.bool false)], args := [d1, d2, d3] }
  | _ => none }
def LawS2335ASeparatedWrongFalsely : Prop := lawS2335ASeparatedRow.holds Yba.pinned (OpenSpec.ofChange lawS2335ASeparatedWrong)

/-- 'tessellate.LawS2335BModel': WHATEVER THE INPUT: true; the input reads as it did. -/
def lawS2335BModelSpec : ChangeSpec := { name := "lawS2335BModel", fn := fun _ => fun
  | [d1, d2, d3] => { results := [.lit (.bool true)], args := [d1, d2, d3] }
  | _ => none }
def lawS2335BModelRow : OpenClaim := { program := "ybulkavii", sum := "ac87928935870d10214124d259300887386833afb17c4c7083c4d2e0d872867d", func := "example.com/tessellate/tessellate.LawS2335BModel", spec := "lawS2335BModel", plainKeys := false, apart := false }
def LawS2335BModelSaid : Prop := lawS2335BModelRow.holds Yba.pinned (OpenSpec.ofChange lawS2335BModelSpec)

/-- ITS FALSE NEIGHBOUR: 'it returns false'. Refute it at one input. -/
def lawS2335BModelWrong : ChangeSpec := { name := "lawS2335BModel", fn := fun _ => fun
  | [d1, d2, d3] => { results := [.lit (.bool false)], args := [d1, d2, d3] }
  | _ => none }
def LawS2335BModelWrongFalsely : Prop := lawS2335BModelRow.holds Yba.pinned (OpenSpec.ofChange lawS2335BModelWrong)

/-- 'tessellate.LawS2335BFlips': WHATEVER THE INPUT: true; the input reads as it did. -/
def lawS2335BFlipsSpec : ChangeSpec := { name := "lawS2335BFlips", fn := fun _ => fun
  | [d1, d2, d3] => { results := [.lit (.bool true)], args := [d1, d2, d3] }
  | _ => none }
def lawS2335BFlipsRow : OpenClaim := { program := "ybulkavii", sum := "ac87928935870d10214124d259300887386833afb17c4c7083c4d2e0d872867d", func := "example.com/tessellate/tessellate.LawS2335BFlips", spec := "lawS2335BFlips", plainKeys := false, apart := false }
def LawS2335BFlipsSaid : Prop := lawS2335BFlipsRow.holds Yba.pinned (OpenSpec.ofChange lawS2335BFlipsSpec)

/-- ITS FALSE NEIGHBOUR: 'it returns false'. Refute it at one input. -/
def lawS2335BFlipsWrong : ChangeSpec := { name := "lawS2335BFlips", fn := fun _ => fun
  | [d1, d2, d3] => { results := [.lit (.bool false)], args := [d1, d2, d3] }
  | _ => none }
def LawS2335BFlipsWrongFalsely : Prop := lawS2335BFlipsRow.holds Yba.pinned (OpenSpec.ofChange lawS2335BFlipsWrong)

/-- 'tessellate.LawS2335CScript': WHATEVER THE INPUT: true; the input reads as it did. -/
def lawS2335CScriptSpec : ChangeSpec := { name := "lawS2335CScript", fn := fun _ => fun
  | [d] => { results := [.lit (.bool true)], args := [d] }
  | _ => none }
def lawS2335CScriptRow : OpenClaim := { program := "ybulkavii", sum := "ac87928935870d10214124d259300887386833afb17c4c7083c4d2e0d872867d", func := "example.com/tessellate/tessellate.LawS2335CScript", spec := "lawS2335CScript", plainKeys := false, apart := false }
def LawS2335CScriptSaid : Prop := lawS2335CScriptRow.holds Yba.pinned (OpenSpec.ofChange lawS2335CScriptSpec)

/-- ITS FALSE NEIGHBOUR: 'it returns false'. Refute it at one input. -/
def lawS2335CScriptWrong : ChangeSpec := { name := "lawS2335CScript", fn := fun _ => fun
  | [d] => { results := [.lit (.bool false)], args := [d] }
  | _ => none }
def LawS2335CScriptWrongFalsely : Prop := lawS2335CScriptRow.holds Yba.pinned (OpenSpec.ofChange lawS2335CScriptWrong)

end Rows
end Go.Proofs.Ybulkavii
