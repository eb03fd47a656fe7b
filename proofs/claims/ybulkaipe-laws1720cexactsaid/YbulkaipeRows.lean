/-
  No cell of these rows narrows 'for every input' (looked for: loops, veiled, ifaces, maps, wideKeys, modest, calm, conditions, laid).
  DERIVED. THE GIVEN ROWS OF THIS SEAT. 2 by the template 'for every input the law returns true; each argument reads behind the call as it read before'; 0 by the template 'total and deterministic' (their statements: YbulkaipeTotals.lean).
  GIVEN WITH THE SEED: the statements are not yours to turn. If you find one false, say at which input.
  Laid BY PROGRAM, IN A SANDBOX (cutbox-rows.mjs): the forced cells as the released guide's own fill.sh prints them over the translation e1fcbf03c060a5f7… (all of the seat's roots in one cut). By AI agents, Wed Nov 11 2026. No macro, syntax, notation, axiom, sorry.
-/
import Derived.Test.YbulkaipeChecked
import GoSem.Claim
import GoSem.ClaimJoined
import GoSem.ClaimMapViews
import Derived.JoinedTies
import Derived.KernelRfl
namespace Go.Proofs.Ybulkaipe
/- THE CELL 'sum', in the pinned program and in every row, IS THE sha256 OF THE DUMP (.gsa) THAT YbulkaipeProg.lean LOADS. Nothing in Lean hashes anything: it is a label: what it is worth is what the hold of that sum in a sandbox is worth. -/
noncomputable def Yba.pinned : Pinned := { name := "ybulkaipe", sum := "e1fcbf03c060a5f77c721b427e4b2b60e0aaaf5eaea82850d36e869c558c42f9", checked := Yba.checked }
namespace Rows
def none {H : Type} : Left H := { results := [], args := [] }

/-- 'zhuangu.LawS1720CExact': WHATEVER THE INPUT: true; the input reads as it did. -/
def lawS1720CExactSpec : ChangeSpec := { name := "lawS1720CExact", fn := fun _ => fun
  | [d1, d2, d3, d4, d5, d6] => { results := [.lit (.bool true)], args := [d1, d2, d3, d4, d5, d6] }
  | _ => none }
def lawS1720CExactRow : OpenClaim := { program := "ybulkaipe", sum := "e1fcbf03c060a5f77c721b427e4b2b60e0aaaf5eaea82850d36e869c558c42f9", func := "example.com/zhuangu/zhuangu.LawS1720CExact", spec := "lawS1720CExact", apart := false }
def LawS1720CExactSaid : Prop := lawS1720CExactRow.holds Yba.pinned (OpenSpec.ofChange lawS1720CExactSpec)

/-- ITS FALSE NEIGHBOUR: 'it returns false'. Refute it at one input. -/
def lawS1720CExactWrong : ChangeSpec := { name := "lawS1720CExact", fn := fun _ => fun
  | [d1, d2, d3, d4, d5, d6] => { results := [.lit (.bool false)], args := [d1, d2, d3, d4, d5, d6] }
  | _ => none }
def LawS1720CExactWrongFalsely : Prop := lawS1720CExactRow.holds Yba.pinned (OpenSpec.ofChange lawS1720CExactWrong)

/-- 'zhuangu.LawS1720CStates': WHATEVER THE INPUT: true; the input reads as it did. -/
def lawS1720CStatesSpec : ChangeSpec := { name := "lawS1720CStates", fn := fun _ => fun
  | [d1, d2, d3, d4, d5, d6] => { results := [.lit (.bool true)], args := [d1, d2, d3, d4, d5, d6] }
  | _ => none }
def lawS1720CStatesRow : OpenClaim := { program := "ybulkaipe", sum := "e1fcbf03c060a5f77c721b427e4b2b60e0aaaf5eaea82850d36e869c558c42f9", func := "example.com/zhuangu/zhuangu.LawS1720CStates", spec := "lawS1720CStates", apart := false }
def LawS1720CStatesSaid : Prop := lawS1720CStatesRow.holds Yba.pinned (OpenSpec.ofChange lawS1720CStatesSpec)

/-- ITS FALSE NEIGHBOUR: 'it returns false'. Refute it at one input. -/
def lawS1720CStatesWrong : ChangeSpec := { name := "lawS1720CStates", fn := fun _ => fun
  | [d1, d2, d3, d4, d5, d6] => { results := [.lit (.bool false)], args := [d1, d2, d3, d4, d5, d6] }
  | _ => none }
def LawS1720CStatesWrongFalsely : Prop := lawS1720CStatesRow.holds Yba.pinned (OpenSpec.ofChange lawS1720CStatesWrong)

end Rows
end Go.Proofs.Ybulkaipe
