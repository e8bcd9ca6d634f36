/-
  No cell of these rows narrows 'for every input' (looked for: loops, veiled, ifaces, maps, wideKeys, modest, calm, conditions, laid).
  DERIVED. THE GIVEN ROWS OF THIS SEAT. 2 by the template 'for every input the law returns true; each argument reads behind the call as it read before'; 0 by the template 'total and deterministic' (their statements: YbulkchawTotals.lean).
  GIVEN WITH THE SEED: the statements are not yours to turn. If you find one false, say at which input.
  Laid BY PROGRAM, IN A SANDBOX (cutbox-rows.mjs): the forced cells as the released guide's own fill.sh prints them over the translation 3fff378e3434fcde… (all of the seat's roots in one cut). By AI agents, Wed Nov 11 2026. No macro, syntax, notation, axiom, sorry.
-/
import Derived.Test.YbulkchawChecked
import GoSem.Claim
import GoSem.ClaimJoined
import GoSem.ClaimMapViews
import Derived.JoinedTies
import Derived.KernelRfl
namespace Go.Proofs.Ybulkchaw
/- THE CELL 'sum', in the pinned program and in every row, IS THE sha256 OF THE DUMP (.gsa) THAT YbulkchawProg.lean LOADS. Nothing in Lean hashes anything: it is a label: what it is worth is what the hold of that sum in a sandbox is worth. -/
noncomputable def Yba.pinned : Pinned := { name := "ybulkchaw", sum := "3fff378e3434fcde2bca329a7b39452dad88b79f0649b81b18033670dc01f5a9", checked := Yba.checked }
namespace Rows
def none {H : Type} : Left H := { results := [], args := [] }

/-- 'diameter.LawS4156BExact': WHATEVER THE INPUT: true; the input reads as it did. -/
def lawS4156BExactSpec : ChangeSpec := { name := "lawS4156BExact", fn := fun _ => fun
  | [d1, d2, d3, d4] => { results := [.lit (.bool true)], args := [d1, d2, d3, d4] }
  | _ => none }
def lawS4156BExactRow : OpenClaim := { program := "ybulkchaw", sum := "3fff378e3434fcde2bca329a7b39452dad88b79f0649b81b18033670dc01f5a9", func := "example.com/tollgate/tollgate/pkg/diameter.LawS4156BExact", spec := "lawS4156BExact", apart := false }
def LawS4156BExactSaid : Prop := lawS4156BExactRow.holds Yba.pinned (OpenSpec.ofChange lawS4156BExactSpec)

/-- ITS FALSE NEIGHBOUR: 'it returns false'. Refute it at one input. -/
def lawS4156BExactWrong : ChangeSpec := { name := "lawS4156BExact", fn := fun _ => fun
  | [d1, d2, d3, d4] => { results := [.lit (.bool false)], args := [d1, d2, d3, d4] }
  | _ => none }
def LawS4156BExactWrongFalsely : Prop := lawS4156BExactRow.holds Yba.pinned (OpenSpec.ofChange lawS4156BExactWrong)

/-- 'diameter.LawS4156BHeader': WHATEVER THE INPUT: true; the input reads as it did. -/
def lawS4156BHeaderSpec : ChangeSpec := { name := "lawS4156BHeader", fn := fun _ => fun
  | [d1, d2, d3, d4] => { results := [.lit (.bool true)], args := [d1, d2, d3, d4] }
  | _ => none }
def lawS4156BHeaderRow : OpenClaim := { program := "ybulkchaw", sum := "3fff378e3434fcde2bca329a7b39452dad88b79f0649b81b18033670dc01f5a9", func := "example.com/tollgate/tollgate/pkg/diameter.LawS4156BHeader", spec := "lawS4156BHeader", named := ["encoding/binary.BigEndian"], apart := false }
def LawS4156BHeaderSaid : Prop := lawS4156BHeaderRow.holds Yba.pinned (OpenSpec.ofChange lawS4156BHeaderSpec)

/-- ITS FALSE NEIGHBOUR: 'it returns false'. Refute it at one input. -/
def lawS4156BHeaderWrong : ChangeSpec := { name := "lawS4156BHeader", fn := fun _ => fun
  | [d1, d2, d3, d4] => { results := [.lit (.bool false)], args := [d1, d2, d3, d4] }
  | _ => none }
def LawS4156BHeaderWrongFalsely : Prop := lawS4156BHeaderRow.holds Yba.pinned (OpenSpec.ofChange lawS4156BHeaderWrong)

end Rows
end Go.Proofs.Ybulkchaw
