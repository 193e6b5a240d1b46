/-
  No cell of these rows narrows 'for every input' (looked for: loops, veiled, ifaces, maps, wideKeys, modest, calm, conditions, laid).
  DERIVED. THE GIVEN ROWS OF THIS SEAT. 3 by the template 'for every input the law returns true; each argument reads behind the call as it read before'; 0 by the template 'total and deterministic' (their statements: YbulkemgTotals.lean).
  GIVEN WITH THE SEED: the statements are not yours to turn. If you find one false, say at which input.
  Laid BY PROGRAM, IN A SANDBOX (cutbox-rows.mjs): the forced cells as the released guide's own fill.sh prints them over the translation 78d85179425b8f40… (all of the seat's roots in one cut). By AI agents, Wed Nov 11 2026. No macro, syntax, notation, axiom, sorry.
-/
import Derived.Test.YbulkemgChecked
import GoSem.Claim
import GoSem.ClaimJoined
import GoSem.ClaimMapViews
import Derived.JoinedTies
import Derived.KernelRfl
namespace Go.Proofs.Ybulkemg
/- THE CELL 'sum', in the pinned program and in every row, IS THE sha256 OF THE DUMP (.gsa) THAT YbulkemgProg.lean LOADS. Nothing in Lean hashes anything: it is a label: what it is worth is what the hold of that sum in a sandbox is worth. -/
noncomputable def Yba.pinned : Pinned := { name := "ybulkemg", sum := "78d85179425b8f401b4f1ab937f37abf22af2ac9f0c7ad85b13a87005add0828", checked := Yba.checked }
namespace Rows
def none {H : Type} : Left H := { results := [], args := [] }

/-- 'locks.LawS0266AGrow': WHATEVER THE INPUT: true; the input reads as it did. -/
def lawS0266AGrowSpec : ChangeSpec := { name := "lawS0266AGrow", fn := fun _ => fun
  | [d1, d2] => { results := [.lit (.bool true)], args := [d1, d2] }
  | _ => none }
def lawS0266AGrowRow : OpenClaim := { program := "ybulkemg", sum := "78d85179425b8f401b4f1ab937f37abf22af2ac9f0c7ad85b13a87005add0828", func := "example.com/racewarden/racewarden/locks.LawS0266AGrow", spec := "lawS0266AGrow", plainKeys := false, apart := false }
def LawS0266AGrowSaid : Prop := lawS0266AGrowRow.holds Yba.pinned (OpenSpec.ofChange lawS0266AGrowSpec)

/-- ITS FALSE NEIGHBOUR: 'it returns false'. Refute it at one input. -/
def lawS0266AGrowWrong : ChangeSpec := { name := "lawS0266AGrow", fn := fun _ => fun
  | [d1, d2] => { results := [.lit (.bool false)], args := [d1, d2] }
  | _ => none }
def LawS0266AGrowWrongFalsely : Prop := lawS0266AGrowRow.holds Yba.pinned (OpenSpec.ofChange lawS0266AGrowWrong)

/-- 'locks.LawS0266AKeep': WHATEVER THE INPUT: true; the input reads as it did. -/
def lawS0266AKeepSpec : ChangeSpec := { name := "lawS0266AKeep", fn := fun _ => fun
  | [d1, d2, d3, d4] => { results := [.lit (.bool true)], args := [d1, d2, d3, d4] }
  | _ => none }
def lawS0266AKeepRow : OpenClaim := { program := "ybulkemg", sum := "78d85179425b8f401b4f1ab937f37abf22af2ac9f0c7ad85b13a87005add0828", func := "example.com/racewarden/racewarden/locks.LawS0266AKeep", spec := "lawS0266AKeep", plainKeys := false, apart := false }
def LawS0266AKeepSaid : Prop := lawS0266AKeepRow.holds Yba.pinned (OpenSpec.ofChange lawS0266AKeepSpec)

/-- ITS FALSE NEIGHBOUR: 'it returns false'. Refute it at one input. -/
def lawS0266AKeepWrong : ChangeSpec := { name := "lawS0266AKeep", fn := fun _ => fun
  | [d1, d2, d3, d4] => { results := [.lit (.bool false)], args := [d1, d2, d3, d4] }
  | _ => none }
def LawS0266AKeepWrongFalsely : Prop := lawS0266AKeepRow.holds Yba.pinned (OpenSpec.ofChange lawS0266AKeepWrong)

/-- 'conflict.LawS0266BMerged': WHATEVER THE INPUT: true; the input reads as it did. -/
def lawS0266BMergedSpec : ChangeSpec := { name := "lawS0266BMerged", fn := fun _ => fun
  | [d1, d2, d3] => { results := [.lit (.bool true)], args := [d1, d2, d3] }
  | _ => none }
def lawS0266BMergedRow : OpenClaim := { program := "ybulkemg", sum := "78d85179425b8f401b4f1ab937f37abf22af2ac9f0c7ad85b13a87005add0828", func := "example.com/racewarden/racewarden/conflict.LawS0266BMerged", spec := "lawS0266BMerged", plainKeys := false, apart := false }
def LawS0266BMergedSaid : Prop := lawS0266BMergedRow.holds Yba.pinned (OpenSpec.ofChange lawS0266BMergedSpec)

/-- ITS FALSE NEIGHBOUR: 'it returns false'. Refute it at one input. -/
def lawS0266BMergedWrong : ChangeSpec := { name := "lawS0266BMerged", fn := fun _ => fun
  | [d1, d2, d3] => { results := [.lit (.bool false)], args := [d1, d2, d3] }
  | _ => none }
def LawS0266BMergedWrongFalsely : Prop := lawS0266BMergedRow.holds Yba.pinned (OpenSpec.ofChange lawS0266BMergedWrong)

end Rows
end Go.Proofs.Ybulkemg
