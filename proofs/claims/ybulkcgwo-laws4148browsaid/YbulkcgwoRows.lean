/-
  No cell of these rows narrows 'for every input' (looked for: loops, veiled, ifaces, maps, wideKeys, modest, calm, conditions, laid).
  DERIVED. THE GIVEN ROWS OF THIS SEAT. 6 by the template 'for every input the law returns true; each argument reads behind the call as it read before'; 0 by the template 'total and deterministic' (their statements: YbulkcgwoTotals.lean).
  GIVEN WITH THE SEED: the statements are not yours to turn. If you find one false, say at which input.
  Laid BY PROGRAM, IN A SANDBOX (cutbox-rows.mjs): the forced cells as the released guide's own fill.sh prints them over the translation f4a3a1cb83ece728… (all of the seat's roots in one cut). By AI agents, Wed Nov 11 2026. No macro, syntax, notation, axiom, sorry.
-/
import Derived.Test.YbulkcgwoChecked
import GoSem.Claim
import GoSem.ClaimJoined
import GoSem.ClaimMapViews
import Derived.JoinedTies
import Derived.KernelRfl
namespace Go.Proofs.Ybulkcgwo
/- THE CELL 'sum', in the pinned program and in every row, IS THE sha256 OF THE DUMP (.gsa) THAT YbulkcgwoProg.lean LOADS. Nothing in Lean hashes anything: it is a label: what it is worth is what the hold of that sum in a sandbox is worth. -/
noncomputable def Yba.pinned : Pinned := { name := "ybulkcgwo", sum := "f4a3a1cb83ece728da95623ed5434e020f2758dfa453257fdbc6b709dcbe567e", checked := Yba.checked }
namespace Rows
def none {H : Type} : Left H := { results := [], args := [] }

/-- 'set.LawS4148ACopyReads': WHATEVER THE INPUT: true; the input reads as it did. -/
def lawS4148ACopyReadsSpec : ChangeSpec := { name := "lawS4148ACopyReads", fn := fun _ => fun
  | [d] => { results := [.lit (.bool true)], args := [d] }
  | _ => none }
def lawS4148ACopyReadsRow : OpenClaim := { program := "ybulkcgwo", sum := "f4a3a1cb83ece728da95623ed5434e020f2758dfa453257fdbc6b709dcbe567e", func := "membria.example/set.LawS4148ACopyReads", spec := "lawS4148ACopyReads", unfollowed := true, recurses := true, apart := false }
def LawS4148ACopyReadsSaid : Prop := lawS4148ACopyReadsRow.holds Yba.pinned (OpenSpec.ofChange lawS4148ACopyReadsSpec)

/-- ITS FALSE NEIGHBOUR: 'it returns false'. Refute it at one input. -/
def lawS4148ACopyReadsWrong : ChangeSpec := { name := "lawS4148ACopyReads", fn := fun _ => fun
  | [d] => { results := [.lit (.bool false)], args := [d] }
  | _ => none }
def LawS4148ACopyReadsWrongFalsely : Prop := lawS4148ACopyReadsRow.holds Yba.pinned (OpenSpec.ofChange lawS4148ACopyReadsWrong)

/-- 'set.LawS4148AScript': WHATEVER THE INPUT: true; the input reads as it did. -/
def lawS4148AScriptSpec : ChangeSpec := { name := "lawS4148AScript", fn := fun _ => fun
  | [d] => { results := [.lit (.bool true)], args := [d] }
  | _ => none }
def lawS4148AScriptRow : OpenClaim := { program := "ybulkcgwo", sum := "f4a3a1cb83ece728da95623ed5434e020f2758dfa453257fdbc6b709dcbe567e", func := "membria.example/set.LawS4148AScript", spec := "lawS4148AScript", unfollowed := true, recurses := true, apart := false }
def LawS4148AScriptSaid : Prop := lawS4148AScriptRow.holds Yba.pinned (OpenSpec.ofChange lawS4148AScriptSpec)

/-- ITS FALSE NEIGHBOUR: 'it returns false'. Refute it at one input. -/
def lawS4148AScriptWrong : ChangeSpec := { name := "lawS4148AScript", fn := fun _ => fun
  | [d] => { results := [.lit (.bool false)], args := [d] }
  | _ => none }
def LawS4148AScriptWrongFalsely : Prop := lawS4148AScriptRow.holds Yba.pinned (OpenSpec.ofChange lawS4148AScriptWrong)

/-- 'set.LawS4148BRow': WHATEVER THE INPUT: true; the input reads as it did. -/
def lawS4148BRowSpec : ChangeSpec := { name := "lawS4148BRow", fn := fun _ => fun
  | [d1, d2, d3] => { results := [.lit (.bool true)], args := [d1, d2, d3] }
  | _ => none }
def lawS4148BRowRow : OpenClaim := { program := "ybulkcgwo", sum := "f4a3a1cb83ece728da95623ed5434e020f2758dfa453257fdbc6b709dcbe567e", func := "membria.example/set.LawS4148BRow", spec := "lawS4148BRow", unfollowed := true, recurses := true, apart := false }
def LawS4148BRowSaid : Prop := lawS4148BRowRow.holds Yba.pinned (OpenSpec.ofChange lawS4148BRowSpec)

/-- ITS FALSE NEIGHBOUR: 'it returns false'. Refute it at one input. -/
def lawS4148BRowWrong : ChangeSpec := { name := "lawS4148BRow", fn := fun _ => fun
  | [d1, d2, d3] => { results := [.lit (.bool false)], args := [d1, d2, d3] }
  | _ => none }
def LawS4148BRowWrongFalsely : Prop := lawS4148BRowRow.holds Yba.pinned (OpenSpec.ofChange lawS4148BRowWrong)

/-- 'set.LawS4148BNoCmp': WHATEVER THE INPUT: true; the input reads as it did. -/
def lawS4148BNoCmpSpec : ChangeSpec := { name := "lawS4148BNoCmp", fn := fun _ => fun
  | [d1, d2, d3] => { results := [.lit (.bool true)], args := [d1, d2, d3] }
  | _ => none }
def lawS4148BNoCmpRow : OpenClaim := { program := "ybulkcgwo", sum := "f4a3a1cb83ece728da95623ed5434e020f2758dfa453257fdbc6b709dcbe567e", func := "membria.example/set.LawS4148BNoCmp", spec := "lawS4148BNoCmp", unfollowed := true, recurses := true, apart := false }
def LawS4148BNoCmpSaid : Prop := lawS4148BNoCmpRow.holds Yba.pinned (OpenSpec.ofChange lawS4148BNoCmpSpec)

/-- ITS FALSE NEIGHBOUR: 'it returns false'. Refute it at one input. -/
def lawS4148BNoCmpWrong : ChangeSpec := { name := "lawS4148BNoCmp", fn := fun _ => fun
  | [d1, d2, d3] => { results := [.lit (.bool false)], args := [d1, d2, d3] }
  | _ => none }
def LawS4148BNoCmpWrongFalsely : Prop := lawS4148BNoCmpRow.holds Yba.pinned (OpenSpec.ofChange lawS4148BNoCmpWrong)

/-- 'set.LawS4148CModel': WHATEVER THE INPUT: true; the input reads as it did. -/
def lawS4148CModelSpec : ChangeSpec := { name := "lawS4148CModel", fn := fun _ => fun
  | [d1, d2, d3, d4] => { results := [.lit (.bool true)], args := [d1, d2, d3, d4] }
  | _ => none }
def lawS4148CModelRow : OpenClaim := { program := "ybulkcgwo", sum := "f4a3a1cb83ece728da95623ed5434e020f2758dfa453257fdbc6b709dcbe567e", func := "membria.example/set.LawS4148CModel", spec := "lawS4148CModel", apart := false }
def LawS4148CModelSaid : Prop := lawS4148CModelRow.holds Yba.pinned (OpenSpec.ofChange lawS4148CModelSpec)

/-- ITS FALSE NEIGHBOUR: 'it returns false'. Refute it at one input. -/
def lawS4148CModelWrong : ChangeSpec := { name := "lawS4148CModel", fn := fun _ => fun
  | [d1, d2, d3, d4] => { results := [.lit (.bool false)], args := [d1, d2, d3, d4] }
  | _ => none }
def LawS4148CModelWrongFalsely : Prop := lawS4148CModelRow.holds Yba.pinned (OpenSpec.ofChange lawS4148CModelWrong)

/-- 'set.LawS4148CGrown': WHATEVER THE INPUT: true; the input reads as it did. -/
def lawS4148CGrownSpec : ChangeSpec := { name := "lawS4148CGrown", fn := fun _ => fun
  | [d1, d2] => { results := [.lit (.bool true)], args := [d1, d2] }
  | _ => none }
def lawS4148CGrownRow : OpenClaim := { program := "ybulkcgwo", sum := "f4a3a1cb83ece728da95623ed5434e020f2758dfa453257fdbc6b709dcbe567e", func := "membria.example/set.LawS4148CGrown", spec := "lawS4148CGrown", apart := false }
def LawS4148CGrownSaid : Prop := lawS4148CGrownRow.holds Yba.pinned (OpenSpec.ofChange lawS4148CGrownSpec)

/-- ITS FALSE NEIGHBOUR: 'it returns false'. Refute it at one input. -/
def lawS4148CGrownWrong : ChangeSpec := { name := "lawS4148CGrown", fn := fun _ => fun
  | [d1, d2] => { results := [.lit (.bool false)], args := [d1, d2] }
  | _ => none }
def LawS4148CGrownWrongFalsely : Prop := lawS4148CGrownRow.holds Yba.pinned (OpenSpec.ofChange lawS4148CGrownWrong)

end Rows
end Go.Proofs.Ybulkcgwo
