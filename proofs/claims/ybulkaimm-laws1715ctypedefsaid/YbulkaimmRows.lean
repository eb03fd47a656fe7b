/-
  No cell of these rows narrows 'for every input' (looked for: loops, veiled, ifaces, maps, wideKeys, modest, calm, conditions, laid).
  DERIVED. THE GIVEN ROWS OF THIS SEAT. 2 by the template 'for every input the law returns true; each argument reads behind the call as it read before'; 0 by the template 'total and deterministic' (their statements: YbulkaimmTotals.lean).
  GIVEN WITH THE SEED: the statements are not yours to turn. If you find one false, say at which input.
  Laid BY PROGRAM, IN A SANDBOX (cutbox-rows.mjs): the forced cells as the released guide's own fill.sh prints them over the translation b2ebd2a8725eaccd… (all of the seat's roots in one cut). By AI agents, Wed Nov 11 2026. No macro, syntax, notation, axiom, sorry.
-/
import Derived.Test.YbulkaimmChecked
import GoSem.Claim
import GoSem.ClaimJoined
import GoSem.ClaimMapViews
import Derived.JoinedTies
import Derived.KernelRfl
namespace Go.Proofs.Ybulkaimm
/- THE CELL 'sum', in the pinned program and in every row, IS THE sha256 OF THE DUMP (.gsa) THAT YbulkaimmProg.lean LOADS. Nothing in Lean hashes anything: it is a label: what it is worth is what the hold of that sum in a sandbox is worth. -/
noncomputable def Yba.pinned : Pinned := { name := "ybulkaimm", sum := "b2ebd2a8725eaccd067b74a7bff702151cddc10df65a354b3891dec1dc861d90", checked := Yba.checked }
namespace Rows
def none {H : Type} : Left H := { results := [], args := [] }

/-- 'yang.LawS1715CTable': WHATEVER THE INPUT: true; the input reads as it did. -/
def lawS1715CTableSpec : ChangeSpec := { name := "lawS1715CTable", fn := fun _ => fun
  | [d1, d2, d3] => { results := [.lit (.bool true)], args := [d1, d2, d3] }
  | _ => none }
def lawS1715CTableRow : OpenClaim := { program := "ybulkaimm", sum := "b2ebd2a8725eaccd067b74a7bff702151cddc10df65a354b3891dec1dc861d90", func := "example.com/leadline/leadline/internal/yang.LawS1715CTable", spec := "lawS1715CTable", apart := false }
def LawS1715CTableSaid : Prop := lawS1715CTableRow.holds Yba.pinned (OpenSpec.ofChange lawS1715CTableSpec)

/-- ITS FALSE NEIGHBOUR: 'it returns false'. Refute it at one input. -/
def lawS1715CTableWrong : ChangeSpec := { name := "lawS1715CTable", fn := fun _ => fun
  | [d1, d2, d3] => { results := [.lit (.bool false)], args := [d1, d2, d3] }
  | _ => none }
def LawS1715CTableWrongFalsely : Prop := lawS1715CTableRow.holds Yba.pinned (OpenSpec.ofChange lawS1715CTableWrong)

/-- 'yang.LawS1715CTypedef': WHATEVER THE INPUT: true; the input reads as it did. -/
def lawS1715CTypedefSpec : ChangeSpec := { name := "lawS1715CTypedef", fn := fun _ => fun
  | [d1, d2, d3] => { results := [.lit (.bool true)], args := [d1, d2, d3] }
  | _ => none }
def lawS1715CTypedefRow : OpenClaim := { program := "ybulkaimm", sum := "b2ebd2a8725eaccd067b74a7bff702151cddc10df65a354b3891dec1dc861d90", func := "example.com/leadline/leadline/internal/yang.LawS1715CTypedef", spec := "lawS1715CTypedef", unfollowed := true, recurses := true, apart := false }
def LawS1715CTypedefSaid : Prop := lawS1715CTypedefRow.holds Yba.pinned (OpenSpec.ofChange lawS1715CTypedefSpec)

/-- ITS FALSE NEIGHBOUR: 'it returns false'. Refute it at one input. -/
def lawS1715CTypedefWrong : ChangeSpec := { name := "lawS1715CTypedef", fn := fun _ => fun
  | [d1, d2, d3] => { results := [.lit (.bool false)], args := [d1, d2, d3] }
  | _ => none }
def LawS1715CTypedefWrongFalsely : Prop := lawS1715CTypedefRow.holds Yba.pinned (OpenSpec.ofChange lawS1715CTypedefWrong)

end Rows
end Go.Proofs.Ybulkaimm
