/-
  No cell of these rows narrows 'for every input' (looked for: loops, veiled, ifaces, maps, wideKeys, modest, calm, conditions, laid).
  DERIVED. THE GIVEN ROWS OF THIS SEAT. 2 by the template 'for every input the law returns true; each argument reads behind the call as it read before'; 0 by the template 'total and deterministic' (their statements: YbulkemuTotals.lean).
  GIVEN WITH THE SEED: the statements are not yours to turn. If you find one false, say at which input.
  Laid BY PROGRAM, IN A SANDBOX (cutbox-rows.mjs): the forced cells as the released guide's own fill.sh prints them over the translation ab17f0ff3c081ed5… (all of the seat's roots in one cut). By AI agents, Wed Nov 11 2026. No macro, syntax, notation, axiom, sorry.
-/
import Derived.Test.YbulkemuChecked
import GoSem.Claim
import GoSem.ClaimJoined
import GoSem.ClaimMapViews
import Derived.JoinedTies
import Derived.KernelRfl
namespace Go.Proofs.Ybulkemu
/- THE CELL 'sum', in the pinned program and in every row, IS THE sha256 OF THE DUMP (.gsa) THAT YbulkemuProg.lean LOADS. Nothing in Lean hashes anything: it is a label: what it is worth is what the hold of that sum in a sandbox is worth. -/
noncomputable def Yba.pinned : Pinned := { name := "ybulkemu", sum := "ab17f0ff3c081ed5977e6908281893b89af348fc1afc77fcd71ea30ef0a61353", checked := Yba.checked }
namespace Rows
def none {H : Type} : Left H := { results := [], args := [] }

/-- 'picker.LawS0267CGood': WHATEVER THE INPUT: true; the input reads as it did. -/
def lawS0267CGoodSpec : ChangeSpec := { name := "lawS0267CGood", fn := fun _ => fun
  | [d1, d2, d3, d4, d5, d6, d7, d8] => { results := [.lit (.bool true)], args := [d1, d2, d3, d4, d5, d6, d7, d8] }
  | _ => none }
def lawS0267CGoodRow : OpenClaim := { program := "ybulkemu", sum := "ab17f0ff3c081ed5977e6908281893b89af348fc1afc77fcd71ea30ef0a61353", func := "example.com/swarmlet/swarmlet/pkg/picker.LawS0267CGood", spec := "lawS0267CGood", apart := false }
def LawS0267CGoodSaid : Prop := lawS0267CGoodRow.holds Yba.pinned (OpenSpec.ofChange lawS0267CGoodSpec)

/-- ITS FALSE NEIGHBOUR: 'it returns false'. Refute it at one input. -/
def lawS0267CGoodWrong : ChangeSpec := { name := "lawS0267CGood", fn := fun _ => fun
  | [d1, d2, d3, d4, d5, d6, d7, d8] => { results := [.lit (.bool false)], args := [d1, d2, d3, d4, d5, d6, d7, d8] }
  | _ => none }
def LawS0267CGoodWrongFalsely : Prop := lawS0267CGoodRow.holds Yba.pinned (OpenSpec.ofChange lawS0267CGoodWrong)

/-- 'picker.LawS0267CBad': WHATEVER THE INPUT: true; the input reads as it did. -/
def lawS0267CBadSpec : ChangeSpec := { name := "lawS0267CBad", fn := fun _ => fun
  | [d1, d2, d3, d4, d5, d6, d7, d8, d9, d10] => { results := [.lit (.bool true)], args := [d1, d2, d3, d4, d5, d6, d7, d8, d9, d10] }
  | _ => none }
def lawS0267CBadRow : OpenClaim := { program := "ybulkemu", sum := "ab17f0ff3c081ed5977e6908281893b89af348fc1afc77fcd71ea30ef0a61353", func := "example.com/swarmlet/swarmlet/pkg/picker.LawS0267CBad", spec := "lawS0267CBad", apart := false }
def LawS0267CBadSaid : Prop := lawS0267CBadRow.holds Yba.pinned (OpenSpec.ofChange lawS0267CBadSpec)

/-- ITS FALSE NEIGHBOUR: 'it returns false'. Refute it at one input. -/
def lawS0267CBadWrong : ChangeSpec := { name := "lawS0267CBad", fn := fun _ => fun
  | [d1, d2, d3, d4, d5, d6, d7, d8, d9, d10] => { results := [.lit (.bool false)], args := [d1, d2, d3, d4, d5, d6, d7, d8, d9, d10] }
  | _ => none }
def LawS0267CBadWrongFalsely : Prop := lawS0267CBadRow.holds Yba.pinned (OpenSpec.ofChange lawS0267CBadWrong)

end Rows
end Go.Proofs.Ybulkemu
