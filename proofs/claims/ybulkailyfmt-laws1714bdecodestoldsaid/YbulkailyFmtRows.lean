/-
  No cell of these rows narrows 'for every input' (looked for: loops, veiled, ifaces, maps, wideKeys, modest, calm, conditions, laid).
  DERIVED. THE GIVEN ROWS OF THIS SEAT. 1 by the template 'for every input the law returns true; each argument reads behind the call as it read before'; 0 by the template 'total and deterministic' (their statements: YbulkailyFmtTotals.lean).
  GIVEN WITH THE SEED: the statements are not yours to turn. If you find one false, say at which input.
  Laid BY PROGRAM, IN A SANDBOX (cutbox-rows.mjs): the forced cells as the released guide's own fill.sh prints them over the translation 8cc00af9b6e3dacb… (all of the seat's roots in one cut). By AI agents, Wed Nov 11 2026. No macro, syntax, notation, axiom, sorry.
-/
import Derived.Test.YbulkailyFmtChecked
import GoSem.Claim
import GoSem.ClaimJoined
import GoSem.ClaimMapViews
import Derived.JoinedTies
import Derived.KernelRfl
namespace Go.Proofs.YbulkailyFmt
/- THE CELL 'sum', in the pinned program and in every row, IS THE sha256 OF THE DUMP (.gsa) THAT YbulkailyFmtProg.lean LOADS. Nothing in Lean hashes anything: it is a label: what it is worth is what the hold of that sum in a sandbox is worth. -/
noncomputable def Ybaf.pinned : Pinned := { name := "ybulkailyfmt", sum := "8cc00af9b6e3dacbbe8da3a762a5a71fed7231ce38304159c37b7154a556e57d", checked := Ybaf.checked }
namespace Rows
def none {H : Type} : Left H := { results := [], args := [] }

/-- 'm3ua.LawS1714BDecodes': WHATEVER THE INPUT: true; the input reads as it did. -/
def lawS1714BDecodesSpec : ChangeSpec := { name := "lawS1714BDecodes", fn := fun _ => fun
  | [d1, d2, d3] => { results := [.lit (.bool true)], args := [d1, d2, d3] }
  | _ => none }
def lawS1714BDecodesRow : OpenClaim := { program := "ybulkailyfmt", sum := "8cc00af9b6e3dacbbe8da3a762a5a71fed7231ce38304159c37b7154a556e57d", func := "example.com/pointcode/pointcode/m3ua.LawS1714BDecodes", spec := "lawS1714BDecodes", stops := ["fmt.errorf"], inPlace := ["fmt.errorf"], unfollowed := true, recurses := true, apart := false }
/-- NO THEOREM (fmt's text is open here; it may be false): for the released tool's asking of the row's closed facts alone. THE STATEMENT IS 'LawS1714BDecodesToldSaid' (YbulkailyFmtCards.lean). -/
def LawS1714BDecodesFormAsk : Prop := lawS1714BDecodesRow.holds Ybaf.pinned (OpenSpec.ofChange lawS1714BDecodesSpec)

/-- ITS FALSE NEIGHBOUR: 'it returns false'. Refute it at one input. -/
def lawS1714BDecodesWrong : ChangeSpec := { name := "lawS1714BDecodes", fn := fun _ => fun
  | [d1, d2, d3] => { results := [.lit (.bool false)], args := [d1, d2, d3] }
  | _ => none }
def LawS1714BDecodesWrongFormAsk : Prop := lawS1714BDecodesRow.holds Ybaf.pinned (OpenSpec.ofChange lawS1714BDecodesWrong)

end Rows
end Go.Proofs.YbulkailyFmt
