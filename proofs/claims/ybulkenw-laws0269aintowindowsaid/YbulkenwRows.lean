/-
  No cell of these rows narrows 'for every input' (looked for: loops, veiled, ifaces, maps, wideKeys, modest, calm, conditions, laid).
  DERIVED. THE GIVEN ROWS OF THIS SEAT. 3 by the template 'for every input the law returns true; each argument reads behind the call as it read before'; 0 by the template 'total and deterministic' (their statements: YbulkenwTotals.lean).
  GIVEN WITH THE SEED: the statements are not yours to turn. If you find one false, say at which input.
  Laid BY PROGRAM, IN A SANDBOX (cutbox-rows.mjs): the forced cells as the released guide's own fill.sh prints them over the translation 53d9f6ec42ef853f… (all of the seat's roots in one cut). By AI agents, Wed Nov 11 2026. No macro, syntax, notation, axiom, sorry.
-/
import Derived.Test.YbulkenwChecked
import GoSem.Claim
import GoSem.ClaimJoined
import GoSem.ClaimMapViews
import Derived.JoinedTies
import Derived.KernelRfl
namespace Go.Proofs.Ybulkenw
/- THE CELL 'sum', in the pinned program and in every row, IS THE sha256 OF THE DUMP (.gsa) THAT YbulkenwProg.lean LOADS. Nothing in Lean hashes anything: it is a label: what it is worth is what the hold of that sum in a sandbox is worth. -/
noncomputable def Yba.pinned : Pinned := { name := "ybulkenw", sum := "53d9f6ec42ef853fa5426b6f818d8b9a139c3773db81445c0c4cf7720a922d5c", checked := Yba.checked }
namespace Rows
def none {H : Type} : Left H := { results := [], args := [] }

/-- 'recloser.LawS0269ANilWindow': WHATEVER THE INPUT: true; the input reads as it did. -/
def lawS0269ANilWindowSpec : ChangeSpec := { name := "lawS0269ANilWindow", fn := fun _ => fun
  | [d1, d2, d3, d4] => { results := [.lit (.bool true)], args := [d1, d2, d3, d4] }
  | _ => none }
def lawS0269ANilWindowRow : OpenClaim := { program := "ybulkenw", sum := "53d9f6ec42ef853fa5426b6f818d8b9a139c3773db81445c0c4cf7720a922d5c", func := "example.com/recloser/recloser.LawS0269ANilWindow", spec := "lawS0269ANilWindow", inPlace := ["sync/atomic.StoreUint64", "sync/atomic.SwapUint64", "sync/atomic.LoadUint64"], apart := false }
def LawS0269ANilWindowSaid : Prop := lawS0269ANilWindowRow.holds Yba.pinned (OpenSpec.ofChange lawS0269ANilWindowSpec)

/-- ITS FALSE NEIGHBOUR: 'it returns false'. Refute it at one input. -/
def lawS0269ANilWindowWrong : ChangeSpec := { name := "lawS0269ANilWindow", fn := fun _ => fun
  | [d1, d2, d3, d4] => { results := [.lit (.bool false)], args := [d1, d2, d3, d4] }
  | _ => none }
def LawS0269ANilWindowWrongFalsely : Prop := lawS0269ANilWindowRow.holds Yba.pinned (OpenSpec.ofChange lawS0269ANilWindowWrong)

/-- 'recloser.LawS0269AIntoWindow': WHATEVER THE INPUT: true; the input reads as it did. -/
def lawS0269AIntoWindowSpec : ChangeSpec := { name := "lawS0269AIntoWindow", fn := fun _ => fun
  | [d1, d2, d3, d4, d5, d6, d7] => { results := [.lit (.bool true)], args := [d1, d2, d3, d4, d5, d6, d7] }
  | _ => none }
def lawS0269AIntoWindowRow : OpenClaim := { program := "ybulkenw", sum := "53d9f6ec42ef853fa5426b6f818d8b9a139c3773db81445c0c4cf7720a922d5c", func := "example.com/recloser/recloser.LawS0269AIntoWindow", spec := "lawS0269AIntoWindow", inPlace := ["sync/atomic.StoreUint64", "sync/atomic.SwapUint64", "sync/atomic.LoadUint64"], apart := false }
def LawS0269AIntoWindowSaid : Prop := lawS0269AIntoWindowRow.holds Yba.pinned (OpenSpec.ofChange lawS0269AIntoWindowSpec)

/-- ITS FALSE NEIGHBOUR: 'it returns false'. Refute it at one input. -/
def lawS0269AIntoWindowWrong : ChangeSpec := { name := "lawS0269AIntoWindow", fn := fun _ => fun
  | [d1, d2, d3, d4, d5, d6, d7] => { results := [.lit (.bool false)], args := [d1, d2, d3, d4, d5, d6, d7] }
  | _ => none }
def LawS0269AIntoWindowWrongFalsely : Prop := lawS0269AIntoWindowRow.holds Yba.pinned (OpenSpec.ofChange lawS0269AIntoWindowWrong)

/-- 'recloser.LawS0269BCloseThenRelease': WHATEVER THE INPUT: true; the input reads as it did. -/
def lawS0269BCloseThenReleaseSpec : ChangeSpec := { name := "lawS0269BCloseThenRelease", fn := fun _ => fun
  | [d] => { results := [.lit (.bool true)], args := [d] }
  | _ => none }
def lawS0269BCloseThenReleaseRow : OpenClaim := { program := "ybulkenw", sum := "53d9f6ec42ef853fa5426b6f818d8b9a139c3773db81445c0c4cf7720a922d5c", func := "example.com/recloser/recloser.LawS0269BCloseThenRelease", spec := "lawS0269BCloseThenRelease", unfollowed := true, recurses := true, apart := false }
def LawS0269BCloseThenReleaseSaid : Prop := lawS0269BCloseThenReleaseRow.holds Yba.pinned (OpenSpec.ofChange lawS0269BCloseThenReleaseSpec)

/-- ITS FALSE NEIGHBOUR: 'it returns false'. Refute it at one input. -/
def lawS0269BCloseThenReleaseWrong : ChangeSpec := { name := "lawS0269BCloseThenRelease", fn := fun _ => fun
  | [d] => { results := [.lit (.bool false)], args := [d] }
  | _ => none }
def LawS0269BCloseThenReleaseWrongFalsely : Prop := lawS0269BCloseThenReleaseRow.holds Yba.pinned (OpenSpec.ofChange lawS0269BCloseThenReleaseWrong)

end Rows
end Go.Proofs.Ybulkenw
