/-
  No cell of these rows narrows 'for every input' (looked for: loops, veiled, ifaces, maps, wideKeys, modest, calm, conditions, laid).
  DERIVED. THE GIVEN ROWS OF THIS SEAT. 2 by the template 'for every input the law returns true; each argument reads behind the call as it read before'; 0 by the template 'total and deterministic' (their statements: YbulkaitmTotals.lean).
  GIVEN WITH THE SEED: the statements are not yours to turn. If you find one false, say at which input.
  Laid BY PROGRAM, IN A SANDBOX (cutbox-rows.mjs): the forced cells as the released guide's own fill.sh prints them over the translation 9520bbc23512582c… (all of the seat's roots in one cut). By AI agents, Wed Nov 11 2026. No macro, syntax, notation, axiom, sorry.
-/
import Derived.Test.YbulkaitmChecked
import GoSem.Claim
import GoSem.ClaimJoined
import GoSem.ClaimMapViews
import Derived.JoinedTies
import Derived.KernelRfl
namespace Go.Proofs.Ybulkaitm
/- THE CELL 'sum', in the pinned program and in every row, IS THE sha256 OF THE DUMP (.gsa) THAT YbulkaitmProg.lean LOADS. Nothing in Lean hashes anything: it is a label: what it is worth is what the hold of that sum in a sandbox is worth. -/
noncomputable def Yba.pinned : Pinned := { name := "ybulkaitm", sum := "9520bbc23512582c4353499e5ec4e3755ff9f254d60a9cbe72ab30e0eae88841", checked := Yba.checked }
namespace Rows
def none {H : Type} : Left H := { results := [], args := [] }

/-- 'maglev.LawS1728BExact': WHATEVER THE INPUT: true; the input reads as it did. -/
def lawS1728BExactSpec : ChangeSpec := { name := "lawS1728BExact", fn := fun _ => fun
  | [d] => { results := [.lit (.bool true)], args := [d] }
  | _ => none }
def lawS1728BExactRow : OpenClaim := { program := "ybulkaitm", sum := "9520bbc23512582c4353499e5ec4e3755ff9f254d60a9cbe72ab30e0eae88841", func := "example.com/hashrail/hashrail/internal/maglev.LawS1728BExact", spec := "lawS1728BExact", apart := false }
def LawS1728BExactSaid : Prop := lawS1728BExactRow.holds Yba.pinned (OpenSpec.ofChange lawS1728BExactSpec)

/-- ITS FALSE NEIGHBOUR: 'it returns false'. Refute it at one input. -/
def lawS1728BExactWrong : ChangeSpec := { name := "lawS1728BExact", fn := fun _ => fun
  | [d] => { results := [.lit (.bool false)], args := [d] }
  | _ => none }
def LawS1728BExactWrongFalsely : Prop := lawS1728BExactRow.holds Yba.pinned (OpenSpec.ofChange lawS1728BExactWrong)

/-- 'maglev.LawS1728BProduct': WHATEVER THE INPUT: true; the input reads as it did. -/
def lawS1728BProductSpec : ChangeSpec := { name := "lawS1728BProduct", fn := fun _ => fun
  | [d1, d2] => { results := [.lit (.bool true)], args := [d1, d2] }
  | _ => none }
def lawS1728BProductRow : OpenClaim := { program := "ybulkaitm", sum := "9520bbc23512582c4353499e5ec4e3755ff9f254d60a9cbe72ab30e0eae88841", func := "example.com/hashrail/hashrail/internal/maglev.LawS1728BProduct", spec := "lawS1728BProduct", apart := false }
def LawS1728BProductSaid : Prop := lawS1728BProductRow.holds Yba.pinned (OpenSpec.ofChange lawS1728BProductSpec)

/-- ITS FALSE NEIGHBOUR: 'it returns false'. Refute it at one input. -/
def lawS1728BProductWrong : ChangeSpec := { name := "lawS1728BProduct", fn := fun _ => fun
  | [d1, d2] => { results := [.lit (.bool false)], args := [d1, d2] }
  | _ => none }
def LawS1728BProductWrongFalsely : Prop := lawS1728BProductRow.holds Yba.pinned (OpenSpec.ofChange lawS1728BProductWrong)

end Rows
end Go.Proofs.Ybulkaitm
