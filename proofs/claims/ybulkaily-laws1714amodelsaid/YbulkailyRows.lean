/-
  No cell of these rows narrows 'for every input' (looked for: loops, veiled, ifaces, maps, wideKeys, modest, calm, conditions, laid).
  DERIVED. THE GIVEN ROWS OF THIS SEAT. 2 by the template 'for every input the law returns true; each argument reads behind the call as it read before'; 0 by the template 'total and deterministic' (their statements: YbulkailyTotals.lean).
  GIVEN WITH THE SEED: the statements are not yours to turn. If you find one false, say at which input.
  Laid BY PROGRAM, IN A SANDBOX (cutbox-rows.mjs): the forced cells as the released guide's own fill.sh prints them over the translation 869c70879b131114… (all of the seat's roots in one cut). By AI agents, Wed Nov 11 2026. No macro, syntax, notation, axiom, sorry.
-/
import Derived.Test.YbulkailyChecked
import GoSem.Claim
import GoSem.ClaimJoined
import GoSem.ClaimMapViews
import Derived.JoinedTies
import Derived.KernelRfl
namespace Go.Proofs.Ybulkaily
/- THE CELL 'sum', in the pinned program and in every row, IS THE sha256 OF THE DUMP (.gsa) THAT YbulkailyProg.lean LOADS. Nothing in Lean hashes anything: it is a label: what it is worth is what the hold of that sum in a sandbox is worth. -/
noncomputable def Yba.pinned : Pinned := { name := "ybulkaily", sum := "869c70879b1311146622b30c2d1f6afcb15a28387b9a67d8d90feb7c1bc32e48", checked := Yba.checked }
namespace Rows
def none {H : Type} : Left H := { results := [], args := [] }

/-- 'bench.LawS1714AModel': WHATEVER THE INPUT: true; the input reads as it did. -/
def lawS1714AModelSpec : ChangeSpec := { name := "lawS1714AModel", fn := fun _ => fun
  | [d1, d2, d3, d4, d5] => { results := [.lit (.bool true)], args := [d1, d2, d3, d4, d5] }
  | _ => none }
def lawS1714AModelRow : OpenClaim := { program := "ybulkaily", sum := "869c70879b1311146622b30c2d1f6afcb15a28387b9a67d8d90feb7c1bc32e48", func := "example.com/pointcode/pointcode/bench.LawS1714AModel", spec := "lawS1714AModel", inPlace := ["sync/atomic.LoadPointer", "sync/atomic.StorePointer"], apart := false }
def LawS1714AModelSaid : Prop := lawS1714AModelRow.holds Yba.pinned (OpenSpec.ofChange lawS1714AModelSpec)

/-- ITS FALSE NEIGHBOUR: 'it returns false'. Refute it at one input. -/
def lawS1714AModelWrong : ChangeSpec := { name := "lawS1714AModel", fn := fun _ => fun
  | [d1, d2, d3, d4, d5] => { results := [.lit (.bool false)], args := [d1, d2, d3, d4, d5] }
  | _ => none }
def LawS1714AModelWrongFalsely : Prop := lawS1714AModelRow.holds Yba.pinned (OpenSpec.ofChange lawS1714AModelWrong)

/-- 'bench.LawS1714ASwap': WHATEVER THE INPUT: true; the input reads as it did. -/
def lawS1714ASwapSpec : ChangeSpec := { name := "lawS1714ASwap", fn := fun _ => fun
  | [d1, d2, d3, d4, d5] => { results := [.lit (.bool true)], args := [d1, d2, d3, d4, d5] }
  | _ => none }
def lawS1714ASwapRow : OpenClaim := { program := "ybulkaily", sum := "869c70879b1311146622b30c2d1f6afcb15a28387b9a67d8d90feb7c1bc32e48", func := "example.com/pointcode/pointcode/bench.LawS1714ASwap", spec := "lawS1714ASwap", inPlace := ["sync/atomic.LoadPointer", "sync/atomic.StorePointer"], apart := false }
def LawS1714ASwapSaid : Prop := lawS1714ASwapRow.holds Yba.pinned (OpenSpec.ofChange lawS1714ASwapSpec)

/-- ITS FALSE NEIGHBOUR: 'it returns false'. Refute it at one input. -/
def lawS1714ASwapWrong : ChangeSpec := { name := "lawS1714ASwap", fn := fun _ => fun
  | [d1, d2, d3, d4, d5] => { results := [.lit (.bool false)], args := [d1, d2, d3, d4, d5] }
  | _ => none }
def LawS1714ASwapWrongFalsely : Prop := lawS1714ASwapRow.holds Yba.pinned (OpenSpec.ofChange lawS1714ASwapWrong)

end Rows
end Go.Proofs.Ybulkaily
